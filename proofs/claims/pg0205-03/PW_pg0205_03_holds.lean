import PyProof.Rows.All
import Wide.All
import OpenK.AllK
import Wide.FinOn
import PySem.Challenge.RW_pg0205_03
set_option Elab.async false
set_option maxRecDepth 100000
section
set_option maxRecDepth 100000
namespace Ev
open PySem PySem.W PySem.Calls PyProof.Rows

/-! values of my own evaluator -/
inductive D where
  | none
  | bool (b : Bool)
  | int (i : Int)
  | flt (x : UInt64)
  | str (s : List Nat)
  | tup (xs : List D)
  | lst (xs : List D)
  | inst (as : List (Nat × D))
  | loc (l : Nat)
  deriving Inhabited

inductive MObj where
  | lst (xs : List D)
  | inst (as : List (Nat × D))
  deriving Inhabited

abbrev Sto := List (Option MObj)
abbrev PMap := Addr → Option Obj
/-- what is frozen: objects, and the floats' tokens with their bits -/
structure FM where
  o : PMap
  t : Tok → Option UInt64
structure PLe (F F' : FM) : Prop where
  o : ∀ a o, F.o a = some o → F'.o a = some o
  t : ∀ t x, F.t t = some x → F'.t t = some x
theorem PLe.rfl {F : FM} : PLe F F := ⟨fun _ _ h => h, fun _ _ h => h⟩
theorem PLe.trans {F G H : FM} (a : PLe F G) (b : PLe G H) : PLe F H := ⟨fun x o h => b.o x o (a.o x o h), fun x o h => b.t x o (a.t x o h)⟩

/-- attribute names of the one class, by number -/
def attrName : Nat → Str
  | 0 => Str.ofString "raw"
  | 1 => Str.ofString "n"
  | 2 => Str.ofString "nt"
  | 3 => Str.ofString "norm"
  | _ => Str.ofString "is_simple"

mutual
inductive Rv (C : Addr) (F : FM) (ρ : List (List Addr)) : Value → D → Prop
  | none : Rv C F ρ .none .none
  | bool (b : Bool) : Rv C F ρ (.bool b) (.bool b)
  | int (i : Int) (t : Tok) : Rv C F ρ (.int i t) (.int i)
  | flt {x : UInt64} {t : Tok} (ht : F.t t = some x) : Rv C F ρ (.float x t) (.flt x)
  | str (xs : List Nat) (t : Tok) : Rv C F ρ (.str ⟨xs.toArray⟩ t) (.str xs)
  | tup {a : Addr} {o : Obj} {vs : List Value} {n : Nat} {xs : List D} (ho : F.o a = some o) (hc : o.cls = .type "tuple") (hd : o.data = .seq vs.toArray n) (hs : Rvs C F ρ vs xs) : Rv C F ρ (.ref a) (.tup xs)
  | lst {a : Addr} {o : Obj} {vs : List Value} {n : Nat} {xs : List D} (ho : F.o a = some o) (hc : o.cls = .type "list") (hd : o.data = .seq vs.toArray n) (hs : Rvs C F ρ vs xs) : Rv C F ρ (.ref a) (.lst xs)
  | inst {a d : Addr} {es : List DictEntry} {n : Nat} {as : List (Nat × D)} (ho : F.o a = some (instObj C d)) (hd : F.o d = some (dictOf es n)) (hs : Ra C F ρ es as) : Rv C F ρ (.ref a) (.inst as)
  | loc {a : Addr} {l : Nat} (hl : ∃ r, ρ[l]? = some (a :: r)) : Rv C F ρ (.ref a) (.loc l)
inductive Rvs (C : Addr) (F : FM) (ρ : List (List Addr)) : List Value → List D → Prop
  | nil : Rvs C F ρ [] []
  | cons {v : Value} {X : D} {vs : List Value} {xs : List D} (h : Rv C F ρ v X) (hs : Rvs C F ρ vs xs) : Rvs C F ρ (v :: vs) (X :: xs)
inductive Ra (C : Addr) (F : FM) (ρ : List (List Addr)) : List DictEntry → List (Nat × D) → Prop
  | nil : Ra C F ρ [] []
  | cons {h : Int} {t : Tok} {v : Value} {k : Nat} {X : D} {es : List DictEntry} {as : List (Nat × D)} (hk : k < 5) (hv : Rv C F ρ v X) (hs : Ra C F ρ es as) : Ra C F ρ (⟨h, .str (attrName k) t, v⟩ :: es) ((k, X) :: as)
end

mutual
theorem Rv.mono {C : Addr} {F F' : FM} {ρ ρ' : List (List Addr)} (hF : PLe F F') (hρ : ρ <+: ρ') : ∀ {v : Value} {x : D}, Rv C F ρ v x → Rv C F' ρ' v x
  | _, _, .none => .none
  | _, _, .bool b => .bool b
  | _, _, .int i t => .int i t
  | _, _, .flt ht => .flt (hF.t _ _ ht)
  | _, _, .str xs t => .str xs t
  | _, _, .tup ho hc hd hs => .tup (hF.o _ _ ho) hc hd (Rvs.mono hF hρ hs)
  | _, _, .lst ho hc hd hs => .lst (hF.o _ _ ho) hc hd (Rvs.mono hF hρ hs)
  | _, _, .inst ho hd hs => .inst (hF.o _ _ ho) (hF.o _ _ hd) (Ra.mono hF hρ hs)
  | _, _, .loc hl => .loc (by obtain ⟨t, rfl⟩ := hρ; obtain ⟨r, hl⟩ := hl; exact ⟨r, by rw [List.getElem?_append_left]; exact hl; exact (List.getElem?_eq_some_iff.mp hl).1⟩)
theorem Rvs.mono {C : Addr} {F F' : FM} {ρ ρ' : List (List Addr)} (hF : PLe F F') (hρ : ρ <+: ρ') : ∀ {vs : List Value} {xs : List D}, Rvs C F ρ vs xs → Rvs C F' ρ' vs xs
  | _, _, .nil => .nil
  | _, _, .cons h hs => .cons (Rv.mono hF hρ h) (Rvs.mono hF hρ hs)
theorem Ra.mono {C : Addr} {F F' : FM} {ρ ρ' : List (List Addr)} (hF : PLe F F') (hρ : ρ <+: ρ') : ∀ {es : List DictEntry} {as : List (Nat × D)}, Ra C F ρ es as → Ra C F' ρ' es as
  | _, _, .nil => .nil
  | _, _, .cons hk h hs => .cons hk (Rv.mono hF hρ h) (Ra.mono hF hρ hs)
end

/- no loc inside -/
mutual
def D.pure : D → Bool
  | .loc _ => false
  | .tup xs => D.pures xs
  | .lst xs => D.pures xs
  | .inst as => D.purea as
  | _ => true
def D.pures : List D → Bool
  | [] => true
  | x :: xs => D.pure x && D.pures xs
def D.purea : List (Nat × D) → Bool
  | [] => true
  | (_, x) :: xs => D.pure x && D.purea xs
end
mutual
theorem Rv.toPure {C : Addr} {F : FM} {ρ ρ' : List (List Addr)} : ∀ {v : Value} {x : D}, Rv C F ρ v x → x.pure = true → Rv C F ρ' v x
  | _, _, .none, _ => .none
  | _, _, .bool b, _ => .bool b
  | _, _, .int i t, _ => .int i t
  | _, _, .flt ht, _ => .flt ht
  | _, _, .str xs t, _ => .str xs t
  | _, _, .tup ho hc hd hs, h => .tup ho hc hd (Rvs.toPure hs (by simpa [D.pure] using h))
  | _, _, .lst ho hc hd hs, h => .lst ho hc hd (Rvs.toPure hs (by simpa [D.pure] using h))
  | _, _, .inst ho hd hs, h => .inst ho hd (Ra.toPure hs (by simpa [D.pure] using h))
  | _, _, .loc hl, h => by simp [D.pure] at h
theorem Rvs.toPure {C : Addr} {F : FM} {ρ ρ' : List (List Addr)} : ∀ {vs : List Value} {xs : List D}, Rvs C F ρ vs xs → D.pures xs = true → Rvs C F ρ' vs xs
  | _, _, .nil, _ => .nil
  | _, _, .cons h hs, e => by
    simp only [D.pures, Bool.and_eq_true] at e
    exact .cons (Rv.toPure h e.1) (Rvs.toPure hs e.2)
theorem Ra.toPure {C : Addr} {F : FM} {ρ ρ' : List (List Addr)} : ∀ {es : List DictEntry} {as : List (Nat × D)}, Ra C F ρ es as → D.purea as = true → Ra C F ρ' es as
  | _, _, .nil, _ => .nil
  | _, _, .cons hk h hs, e => by
    simp only [D.purea, Bool.and_eq_true] at e
    exact .cons hk (Rv.toPure h e.1) (Ra.toPure hs e.2)
end
theorem Rvs.length {C : Addr} {F : FM} {ρ : List (List Addr)} : ∀ {vs : List Value} {xs : List D}, Rvs C F ρ vs xs → vs.length = xs.length
  | _, _, .nil => rfl
  | _, _, .cons _ hs => congrArg (· + 1) hs.length
theorem Rvs.get {C : Addr} {F : FM} {ρ : List (List Addr)} : ∀ {vs : List Value} {xs : List D} {i : Nat} {x : D}, Rvs C F ρ vs xs → xs[i]? = some x → ∃ v, vs[i]? = some v ∧ Rv C F ρ v x
  | _, _, i, x, .nil, e => by simp at e
  | _, _, 0, x, .cons h _, e => by simp at e; subst e; exact ⟨_, rfl, h⟩
  | _, _, i + 1, x, .cons _ hs, e => by simpa using Rvs.get (i := i) hs (by simpa using e)
theorem Rvs.append {C : Addr} {F : FM} {ρ : List (List Addr)} : ∀ {vs ws : List Value} {xs ys : List D}, Rvs C F ρ vs xs → Rvs C F ρ ws ys → Rvs C F ρ (vs ++ ws) (xs ++ ys)
  | _, _, _, _, .nil, h => h
  | _, _, _, _, .cons h hs, h' => .cons h (hs.append h')
theorem Rvs.set {C : Addr} {F : FM} {ρ : List (List Addr)} : ∀ {vs : List Value} {xs : List D} {v : Value} {x : D} (i : Nat), Rvs C F ρ vs xs → Rv C F ρ v x → Rvs C F ρ (vs.set i v) (xs.set i x)
  | _, _, _, _, _, .nil, _ => .nil
  | _, _, _, _, 0, .cons _ hs, h => .cons h hs
  | _, _, _, _, i + 1, .cons h0 hs, h => .cons h0 (hs.set i h)
theorem Rvs.take {C : Addr} {F : FM} {ρ : List (List Addr)} : ∀ {vs : List Value} {xs : List D} (i : Nat), Rvs C F ρ vs xs → Rvs C F ρ (vs.take i) (xs.take i)
  | _, _, 0, _ => by simpa using Rvs.nil
  | _, _, _ + 1, .nil => .nil
  | _, _, i + 1, .cons h hs => .cons h (hs.take i)
theorem Rvs.drop {C : Addr} {F : FM} {ρ : List (List Addr)} : ∀ {vs : List Value} {xs : List D} (i : Nat), Rvs C F ρ vs xs → Rvs C F ρ (vs.drop i) (xs.drop i)
  | _, _, 0, h => by simpa using h
  | _, _, _ + 1, .nil => .nil
  | _, _, i + 1, .cons _ hs => hs.drop i

/-! ghost state -/
inductive Tag where
  | fr (i : Nat)
  | loc (l : Nat)
def adrs (fa : List (Option Addr)) (ρ : List (List Addr)) : Tag → List Addr
  | .fr i => (fa[i]?.join).toList
  | .loc l => (ρ[l]?).getD []
def liveT (σ : Sto) : Tag → Prop
  | .fr _ => True
  | .loc l => ∃ m, σ[l]? = some (some m)

end Ev
end
section
set_option maxRecDepth 100000
set_option autoImplicit false
namespace Ev
open PySem PySem.W PySem.Calls PyProof.Rows

structure Cx where
  prog : Program
  w : World
  K : Frag
  B : Heap
  S0 : Shared
  C : Addr
  pos : Bool

inductive ObjR (C : Addr) (F : FM) (ρ : List (List Addr)) (h : Heap) : List Addr → MObj → Prop
  | lst {a : Addr} {vs : List Value} {n : Nat} {xs : List D} (ho : h.get? a = some { cls := .type "list", data := .seq vs.toArray n }) (hs : Rvs C F ρ vs xs) : ObjR C F ρ h [a] (.lst xs)
  | inst {a d : Addr} {es : List DictEntry} {n : Nat} {as : List (Nat × D)} (ho : h.get? a = some (instObj C d)) (hd : h.get? d = some (dictOf es n)) (hs : Ra C F ρ es as) : ObjR C F ρ h [a, d] (.inst as)
theorem ObjR.mono {C : Addr} {F F' : FM} {ρ ρ' : List (List Addr)} {h h' : Heap} {r : List Addr} {m : MObj} (x : ObjR C F ρ h r m) (hF : PLe F F') (hρ : ρ <+: ρ') (hh : ∀ a ∈ r, ∀ o, h.get? a = some o → h'.get? a = some o) : ObjR C F' ρ' h' r m := by
  cases x with
  | lst ho hs => exact .lst (hh _ (by simp) _ ho) (hs.mono hF hρ)
  | inst ho hd hs => exact .inst (hh _ (by simp) _ ho) (hh _ (by simp) _ hd) (hs.mono hF hρ)

structure G (c : Cx) (F : FM) (X : PMap) (fa : List (Option Addr)) (ρ : List (List Addr)) (σ : Sto) (s : Shared) : Prop where
  f : ∀ a o, F.o a = some o → s.heap.get? a = some o
  x : ∀ a o, X a = some o → s.heap.get? a = some o
  fx : ∀ a o, F.o a = some o → X a = none
  base : ∀ a o, c.B.get? a = some o → F.o a = some o
  apart : ∀ t t' a, liveT σ t → liveT σ t' → a ∈ adrs fa ρ t → a ∈ adrs fa ρ t' → t = t'
  own : ∀ t a, liveT σ t → a ∈ adrs fa ρ t → F.o a = none ∧ X a = none ∧ ∃ o, s.heap.get? a = some o
  objs : ∀ (l : Nat) (m : MObj), σ[l]? = some (some m) → ∃ r, ρ[l]? = some r ∧ ObjR c.C F ρ s.heap r m
  len : ρ.length = σ.length
  gens : s.gens = c.S0.gens
  tpos : c.pos = true → 0 < s.toks
  ft : ∀ t x, F.t t = some x → 0 < t ∧ t < s.toks
  os : s.os = c.S0.os

section
variable {c : Cx} {F F' : FM} {X X' : PMap} {fa fa' : List (Option Addr)} {ρ ρ' : List (List Addr)} {σ σ' : Sto} {s s' : Shared}

theorem adrs_loc {l : Nat} {r : List Addr} (h : ρ[l]? = some r) : adrs fa ρ (.loc l) = r := by simp [adrs, h]

theorem G.to (g : G c F X fa ρ σ s) (h : ∀ b o, (F.o b = some o ∨ X b = some o ∨ ∃ t, liveT σ t ∧ b ∈ adrs fa ρ t) → s.heap.get? b = some o → s'.heap.get? b = some o)
    (hg : s'.gens = s.gens) (ho : s'.os = s.os) (ht : s.toks ≤ s'.toks) : G c F X fa ρ σ s' where
  tpos := fun h => Nat.lt_of_lt_of_le (g.tpos h) ht
  ft := fun t x e => ⟨(g.ft t x e).1, Nat.lt_of_lt_of_le (g.ft t x e).2 ht⟩
  f := fun a o e => h a o (.inl e) (g.f a o e)
  x := fun a o e => h a o (.inr (.inl e)) (g.x a o e)
  fx := g.fx
  base := g.base
  apart := g.apart
  own := fun t a l m => let ⟨h1, h2, o, h3⟩ := g.own t a l m; ⟨h1, h2, o, h a o (.inr (.inr ⟨t, l, m⟩)) h3⟩
  objs := fun l m e => let ⟨r, h1, h2⟩ := g.objs l m e; ⟨r, h1, h2.mono PLe.rfl (List.prefix_refl _) fun a ha o ho => h a o (.inr (.inr ⟨.loc l, ⟨m, e⟩, by rw [adrs_loc h1]; exact ha⟩)) ho⟩
  len := g.len
  gens := hg.trans g.gens
  os := ho.trans g.os

theorem G.keeps (g : G c F X fa ρ σ s) (h : ∀ b o, s.heap.get? b = some o → s'.heap.get? b = some o) (hg : s'.gens = s.gens) (ho : s'.os = s.os) (ht : s.toks ≤ s'.toks) : G c F X fa ρ σ s' :=
  g.to (fun b o _ e => h b o e) hg ho ht

theorem G.fresh (g : G c F X fa ρ σ s) {a : Addr} (h : s.heap.get? a = none) : F.o a = none ∧ X a = none ∧ ∀ t, liveT σ t → a ∉ adrs fa ρ t := by
  refine ⟨?_, ?_, fun t l m => ?_⟩
  · cases e : F.o a with | none => rfl | some o => rw [g.f a o e] at h; cases h
  · cases e : X a with | none => rfl | some o => rw [g.x a o e] at h; cases h
  · obtain ⟨_, _, o, e⟩ := g.own t a l m; rw [e] at h; cases h

theorem none_at_size (h : Heap) : h.get? h.objs.size = none := by
  cases e : h.get? h.objs.size with
  | none => rfl
  | some o => exact absurd (Heap.lt_size e) (Nat.lt_irrefl _)

def upd (F : PMap) (a : Addr) (o : Obj) : PMap := fun b => if b = a then some o else F b
theorem upd_self {F : PMap} {a : Addr} {o : Obj} : upd F a o a = some o := by simp [upd]
theorem upd_ne {F : PMap} {a b : Addr} {o : Obj} (h : b ≠ a) : upd F a o b = F b := by simp [upd, h]
theorem upd_get {F : PMap} {a : Addr} {o : Obj} (h : F a = none) : ∀ b o', F b = some o' → upd F a o b = some o' := fun b o' e => by
  unfold upd; split
  · rename_i q; subst q; rw [h] at e; cases e
  · exact e
def updF (F : FM) (a : Addr) (o : Obj) : FM := { F with o := upd F.o a o }
theorem upd_le {F : FM} {a : Addr} {o : Obj} (h : F.o a = none) : PLe F (updF F a o) := ⟨upd_get h, fun _ _ e => e⟩

/-- an address that is nobody's is frozen -/
theorem G.freezeAt (g : G c F X fa ρ σ s) {a : Addr} {o : Obj} (ho : s.heap.get? a = some o) (hF : F.o a = none) (hX : X a = none) (hO : ∀ t, liveT σ t → a ∉ adrs fa ρ t) : G c (updF F a o) X fa ρ σ s where
  tpos := g.tpos
  ft := g.ft
  f := fun b o' e => by
    simp only [updF] at e; unfold upd at e; split at e
    · rename_i q; cases e; rw [q]; exact ho
    · exact g.f b o' e
  x := g.x
  fx := fun b o' e => by
    simp only [updF] at e; unfold upd at e; split at e
    · rename_i q; rw [q]; exact hX
    · exact g.fx b o' e
  base := fun b o' e => (upd_le hF).o b o' (g.base b o' e)
  apart := g.apart
  own := fun t b l m => by
    obtain ⟨h1, h2, h3⟩ := g.own t b l m
    refine ⟨?_, h2, h3⟩
    show upd F.o a o b = none
    rw [upd_ne]; exact h1
    intro e; exact hO t l (e ▸ m)
  objs := fun l m e => let ⟨r, h1, h2⟩ := g.objs l m e; ⟨r, h1, h2.mono (upd_le hF) (List.prefix_refl _) fun _ _ _ h => h⟩
  len := g.len
  gens := g.gens
  os := g.os

theorem G.push (g : G c F X fa ρ σ s) (o : Obj) : G c F X fa ρ σ { s with heap := s.heap.push o } := g.keeps (fun _ _ e => Heap.get?_push_of_some _ e) rfl rfl (Nat.le_refl _)
theorem G.push_frozen (g : G c F X fa ρ σ s) (o : Obj) (hf : o.isFreed = false := by rfl) : G c (updF F s.heap.objs.size o) X fa ρ σ { s with heap := s.heap.push o } := by
  obtain ⟨h1, h2, h3⟩ := g.fresh (none_at_size s.heap)
  exact (g.push o).freezeAt (Heap.get?_push_size _ hf) h1 h2 h3

/-- a new live list -/
theorem G.newLoc (g : G c F X fa ρ σ s) {r : List Addr} {m : MObj} (hr : ∀ a ∈ r, F.o a = none ∧ X a = none ∧ (∀ t, liveT σ t → a ∉ adrs fa ρ t) ∧ ∃ o, s.heap.get? a = some o) (hm : ObjR c.C F (ρ ++ [r]) s.heap r m) :
    G c F X fa (ρ ++ [r]) (σ ++ [some m]) s := by
  have hlen := g.len
  have old : ∀ t, liveT (σ ++ [some m]) t → (liveT σ t ∧ adrs fa (ρ ++ [r]) t = adrs fa ρ t) ∨ (t = .loc σ.length ∧ adrs fa (ρ ++ [r]) t = r) := by
    intro t ht
    cases t with
    | fr i => exact .inl ⟨trivial, rfl⟩
    | loc l =>
      obtain ⟨m', e⟩ := ht
      rcases Nat.lt_trichotomy l σ.length with h | h | h
      · left
        rw [List.getElem?_append_left h] at e
        refine ⟨⟨m', e⟩, ?_⟩
        simp only [adrs]; rw [List.getElem?_append_left (by omega)]
      · subst h; right
        refine ⟨rfl, ?_⟩
        simp only [adrs]; rw [List.getElem?_append_right (by omega)]; simp [hlen]
      · rw [List.getElem?_eq_none (by simp; omega)] at e; cases e
  refine { f := g.f, x := g.x, fx := g.fx, base := g.base, apart := ?_, own := ?_, objs := ?_, len := by simp [hlen], gens := g.gens, os := g.os, tpos := g.tpos, ft := g.ft }
  · intro t t' a h h' m1 m2
    rcases old t h with ⟨l1, e1⟩ | ⟨q1, e1⟩ <;> rcases old t' h' with ⟨l2, e2⟩ | ⟨q2, e2⟩ <;> rw [e1] at m1 <;> rw [e2] at m2
    · exact g.apart t t' a l1 l2 m1 m2
    · exact absurd m1 ((hr a m2).2.2.1 t l1)
    · exact absurd m2 ((hr a m1).2.2.1 t' l2)
    · rw [q1, q2]
  · intro t a h m1
    rcases old t h with ⟨l1, e1⟩ | ⟨rfl, e1⟩ <;> rw [e1] at m1
    · exact g.own t a l1 m1
    · exact ⟨(hr a m1).1, (hr a m1).2.1, (hr a m1).2.2.2⟩
  · intro l m' e
    rcases Nat.lt_trichotomy l σ.length with h | h | h
    · rw [List.getElem?_append_left h] at e
      obtain ⟨r', h1, h2⟩ := g.objs l m' e
      exact ⟨r', by rw [List.getElem?_append_left (by omega)]; exact h1, h2.mono PLe.rfl (List.prefix_append _ _) fun _ _ _ h => h⟩
    · subst h
      rw [List.getElem?_append_right (by omega)] at e
      simp at e; subst e
      exact ⟨r, by rw [List.getElem?_append_right (by omega)]; simp [hlen], hm⟩
    · rw [List.getElem?_eq_none (by simp; omega)] at e; cases e

theorem G.push_list (g : G c F X fa ρ σ s) {vs : List Value} {xs : List D} (hs : Rvs c.C F ρ vs xs) (n : Nat) :
    G c F X fa (ρ ++ [[s.heap.objs.size]]) (σ ++ [some (.lst xs)]) { s with heap := s.heap.push { cls := .type "list", data := .seq vs.toArray n } } := by
  obtain ⟨h1, h2, h3⟩ := g.fresh (none_at_size s.heap)
  have hg := Heap.get?_push_size s.heap (o := { cls := .type "list", data := .seq vs.toArray n }) rfl
  refine (g.push _).newLoc (fun a ha => ?_) ?_
  · simp at ha; subst ha; exact ⟨h1, h2, h3, _, hg⟩
  · exact .lst hg (hs.mono PLe.rfl (List.prefix_append _ _))

/-- a live object is turned -/
theorem G.turn (g : G c F X fa ρ σ s) {l : Nat} {m m' : MObj} {r : List Addr} {h' : Heap} {tk : Nat} (hl : σ[l]? = some (some m)) (hr : ρ[l]? = some r)
    (hk : ∀ b o, b ∉ r → s.heap.get? b = some o → h'.get? b = some o) (hm : ObjR c.C F ρ h' r m') (ha : ∀ a ∈ r, ∃ o, h'.get? a = some o) (ht : s.toks ≤ tk) : G c F X fa ρ (σ.set l (some m')) { s with heap := h', toks := tk } := by
  have hlt : l < σ.length := (List.getElem?_eq_some_iff.mp hl).1
  have lv : ∀ t, liveT (σ.set l (some m')) t → liveT σ t := by
    intro t ht
    cases t with
    | fr i => trivial
    | loc k =>
      obtain ⟨q, e⟩ := ht
      by_cases hkl : k = l
      · subst hkl; exact ⟨m, hl⟩
      · rw [List.getElem?_set_ne (Ne.symm hkl)] at e; exact ⟨q, e⟩
  have hown : ∀ a ∈ r, F.o a = none ∧ X a = none := fun a h => let q := g.own (.loc l) a ⟨m, hl⟩ (by rw [adrs_loc hr]; exact h); ⟨q.1, q.2.1⟩
  refine { f := fun a o e => hk a o (fun h => by rw [(hown a h).1] at e; cases e) (g.f a o e), x := fun a o e => hk a o (fun h => by rw [(hown a h).2] at e; cases e) (g.x a o e), fx := g.fx, base := g.base,
           apart := fun t t' a h h' => g.apart t t' a (lv t h) (lv t' h'), own := ?_, objs := ?_, len := by simpa using g.len, gens := g.gens, os := g.os,
           tpos := fun h => Nat.lt_of_lt_of_le (g.tpos h) ht, ft := fun t x e => ⟨(g.ft t x e).1, Nat.lt_of_lt_of_le (g.ft t x e).2 ht⟩ }
  · intro t a h m1
    obtain ⟨q1, q2, o, q3⟩ := g.own t a (lv t h) m1
    refine ⟨q1, q2, ?_⟩
    by_cases hi : a ∈ r
    · exact ha a hi
    · exact ⟨o, hk a o hi q3⟩
  · intro k q e
    by_cases hkl : k = l
    · subst hkl
      rw [List.getElem?_set_self hlt] at e
      cases e
      exact ⟨r, hr, hm⟩
    · rw [List.getElem?_set_ne (Ne.symm hkl)] at e
      obtain ⟨r', h1, h2⟩ := g.objs k q e
      refine ⟨r', h1, h2.mono PLe.rfl (List.prefix_refl _) fun a ha' o ho => hk a o (fun hi => ?_) ho⟩
      have := g.apart (.loc l) (.loc k) a ⟨m, hl⟩ ⟨q, e⟩ (by rw [adrs_loc hr]; exact hi) (by rw [adrs_loc h1]; exact ha')
      exact hkl (by cases this; rfl)

theorem liveT_setNone {l : Nat} {t : Tag} (h : liveT (σ.set l none) t) : liveT σ t ∧ t ≠ .loc l := by
  cases t with
  | fr i => exact ⟨trivial, fun e => by cases e⟩
  | loc k =>
    obtain ⟨q, e⟩ := h
    by_cases hkl : k = l
    · subst hkl
      by_cases hlt : k < σ.length
      · rw [List.getElem?_set_self hlt] at e; cases e
      · rw [List.getElem?_eq_none (by simp; omega)] at e; cases e
    · rw [List.getElem?_set_ne (Ne.symm hkl)] at e
      exact ⟨⟨q, e⟩, fun x => hkl (by cases x; rfl)⟩

theorem G.drop (g : G c F X fa ρ σ s) (l : Nat) : G c F X fa ρ (σ.set l none) s where
  f := g.f
  x := g.x
  fx := g.fx
  base := g.base
  apart := fun t t' a h h' => g.apart t t' a (liveT_setNone h).1 (liveT_setNone h').1
  own := fun t a h => g.own t a (liveT_setNone h).1
  objs := fun k q e => by
    by_cases hkl : k = l
    · subst hkl
      by_cases hlt : k < σ.length
      · rw [List.getElem?_set_self hlt] at e; cases e
      · rw [List.getElem?_eq_none (by simp; omega)] at e; cases e
    · rw [List.getElem?_set_ne (Ne.symm hkl)] at e; exact g.objs k q e
  len := by simpa using g.len
  gens := g.gens
  os := g.os
  tpos := g.tpos
  ft := g.ft

def MObj.toD : MObj → D
  | .lst xs => .lst xs
  | .inst as => .inst as

theorem G.freeze (g : G c F X fa ρ σ s) {l : Nat} {m : MObj} (hl : σ[l]? = some (some m)) {v : Value} (hv : Rv c.C F ρ v (.loc l)) :
    ∃ F', PLe F F' ∧ G c F' X fa ρ (σ.set l none) s ∧ Rv c.C F' ρ v m.toD := by
  obtain ⟨r, hr, ho⟩ := g.objs l m hl
  have hO : ∀ a ∈ r, ∀ t, liveT (σ.set l none) t → a ∉ adrs fa ρ t := fun a ha t ht hm => by
    have q := liveT_setNone ht
    exact q.2 (g.apart t (.loc l) a q.1 ⟨m, hl⟩ hm (by rw [adrs_loc hr]; exact ha))
  have hw : ∀ a ∈ r, F.o a = none ∧ X a = none ∧ _ := fun a ha => g.own (.loc l) a ⟨m, hl⟩ (by rw [adrs_loc hr]; exact ha)
  cases hv with
  | @loc b _ hl' =>
    obtain ⟨r', hl'⟩ := hl'
    rw [hr] at hl'
    cases ho with
    | @lst a vs n xs h1 hs =>
      cases hl'
      have hle := upd_le (o := { cls := .type "list", data := .seq vs.toArray n }) (hw b (List.mem_singleton.mpr rfl)).1
      exact ⟨_, hle, (g.drop l).freezeAt h1 (hw _ (by simp)).1 (hw _ (by simp)).2.1 (hO _ (by simp)), .lst upd_self rfl rfl (hs.mono hle (List.prefix_refl _))⟩
    | @inst a d es n as h1 hd hs =>
      cases hl'
      have had : b ≠ d := fun e => by subst e; rw [h1] at hd; cases hd
      have g1 := (g.drop l).freezeAt h1 (hw _ (by simp)).1 (hw _ (by simp)).2.1 (hO _ (by simp))
      have l1 := upd_le (o := instObj c.C d) (hw b (by simp)).1
      have hd0 : (updF F b (instObj c.C d)).o d = none := by show upd F.o b _ d = none; rw [upd_ne (Ne.symm had)]; exact (hw d (by simp)).1
      have g2 := g1.freezeAt hd hd0 (hw _ (by simp)).2.1 (hO _ (by simp))
      have l2 := upd_le (o := dictOf es n) hd0
      exact ⟨_, l1.trans l2, g2, .inst (l2.o _ _ upd_self) upd_self (hs.mono (l1.trans l2) (List.prefix_refl _))⟩
end
end Ev
end
section
set_option maxRecDepth 100000
set_option autoImplicit false
namespace Ev
open PySem PySem.W PySem.Calls PyProof.Rows

section
variable {c : Cx} {F F' : FM} {X X' : PMap} {fa fa' : List (Option Addr)} {ρ ρ' : List (List Addr)} {σ σ' : Sto} {s s' : Shared}

theorem adrs_fr {i : Nat} {a : Addr} : a ∈ adrs fa ρ (.fr i) ↔ fa[i]? = some (some a) := by
  simp only [adrs]
  cases e : fa[i]? with
  | none => simp
  | some o => cases o with
    | none => simp
    | some b => simp; exact eq_comm

theorem G.turnFr (g : G c F X fa ρ σ s) {i : Nat} {a : Addr} {h' : Heap} {tk : Nat} (hi : fa[i]? = some (some a)) (hk : ∀ b o, b ≠ a → s.heap.get? b = some o → h'.get? b = some o) (hl : ∃ o, h'.get? a = some o) (ht : s.toks ≤ tk) :
    G c F X fa ρ σ { s with heap := h', toks := tk } := by
  have hw := g.own (.fr i) a trivial (adrs_fr.mpr hi)
  refine { f := fun b o e => hk b o (fun q => by rw [q, hw.1] at e; cases e) (g.f b o e), x := fun b o e => hk b o (fun q => by rw [q, hw.2.1] at e; cases e) (g.x b o e), fx := g.fx, base := g.base,
           apart := g.apart, own := ?_, objs := ?_, len := g.len, gens := g.gens, os := g.os,
           tpos := fun h => Nat.lt_of_lt_of_le (g.tpos h) ht, ft := fun t x e => ⟨(g.ft t x e).1, Nat.lt_of_lt_of_le (g.ft t x e).2 ht⟩ }
  · intro t b h m
    obtain ⟨q1, q2, o, q3⟩ := g.own t b h m
    refine ⟨q1, q2, ?_⟩
    by_cases hb : b = a
    · subst hb; exact hl
    · exact ⟨o, hk b o hb q3⟩
  · intro l m e
    obtain ⟨r, h1, h2⟩ := g.objs l m e
    refine ⟨r, h1, h2.mono PLe.rfl (List.prefix_refl _) fun b hb o ho => hk b o (fun q => ?_) ho⟩
    subst q
    have := g.apart (.loc l) (.fr i) b ⟨m, e⟩ trivial (by rw [adrs_loc h1]; exact hb) (adrs_fr.mpr hi)
    cases this

open Classical in
noncomputable def hid (p : Addr → Prop) (X : PMap) (h : Heap) : PMap := fun b => if p b then h.get? b else X b
theorem hid_pos {p : Addr → Prop} {h : Heap} {b : Addr} (hp : p b) : hid p X h b = h.get? b := by simp [hid, hp]
theorem hid_neg {p : Addr → Prop} {h : Heap} {b : Addr} (hp : ¬ p b) : hid p X h b = X b := by simp [hid, hp]

def ownedBy (fa : List (Option Addr)) (ρ : List (List Addr)) (σ : Sto) (b : Addr) : Prop := ∃ t, liveT σ t ∧ b ∈ adrs fa ρ t
def ownedFr (fa : List (Option Addr)) (b : Addr) : Prop := ∃ i : Nat, fa[i]? = some (some b)
def ownedBut (l : Nat) (fa : List (Option Addr)) (ρ : List (List Addr)) (σ : Sto) (b : Addr) : Prop := ∃ t, t ≠ .loc l ∧ liveT σ t ∧ b ∈ adrs fa ρ t

theorem noTag {t : Tag} {a : Addr} (h : a ∈ adrs [] [] t) : False := by cases t <;> simp [adrs] at h

theorem G.hideX (g : G c F X fa ρ σ s) {p : Addr → Prop} (hp : ∀ b, p b → ownedBy fa ρ σ b) {fa' : List (Option Addr)} {ρ' : List (List Addr)} {σ' : Sto}
    (h1 : ∀ t t' a, liveT σ' t → liveT σ' t' → a ∈ adrs fa' ρ' t → a ∈ adrs fa' ρ' t' → t = t')
    (h2 : ∀ t a, liveT σ' t → a ∈ adrs fa' ρ' t → ownedBy fa ρ σ a ∧ ¬ p a)
    (h3 : ∀ (l : Nat) (m : MObj), σ'[l]? = some (some m) → ∃ r, ρ'[l]? = some r ∧ ObjR c.C F ρ' s.heap r m) (h4 : ρ'.length = σ'.length) :
    G c F (hid p X s.heap) fa' ρ' σ' s where
  f := g.f
  x := fun a o e => by
    by_cases hb : p a
    · rw [hid_pos hb] at e; exact e
    · rw [hid_neg hb] at e; exact g.x a o e
  fx := fun a o e => by
    by_cases hb : p a
    · obtain ⟨t, l, m⟩ := hp a hb
      rw [(g.own t a l m).1] at e; cases e
    · rw [hid_neg hb]; exact g.fx a o e
  base := g.base
  apart := h1
  own := fun t a l m => by
    obtain ⟨⟨t', l', m'⟩, hn⟩ := h2 t a l m
    have := g.own t' a l' m'
    rw [hid_neg hn]; exact this
  objs := h3
  len := h4
  gens := g.gens
  os := g.os
  tpos := g.tpos
  ft := g.ft

theorem G.hide (g : G c F X fa ρ σ s) : G c F (hid (ownedBy fa ρ σ) X s.heap) [] [] [] s :=
  g.hideX (fun _ h => h) (fun t _ a _ _ h => (noTag h).elim) (fun t a _ h => (noTag h).elim) (fun l m e => by simp at e) rfl

theorem G.unhide (g : G c F X fa ρ σ s) {fa2 : List (Option Addr)} {ρ2 : List (List Addr)} {σ2 : Sto} (g' : G c F' (hid (ownedBy fa ρ σ) X s.heap) fa2 ρ2 σ2 s') (hle : PLe F F') :
    G c F' X fa ρ σ s' ∧ ∀ b o, ownedBy fa ρ σ b → s.heap.get? b = some o → s'.heap.get? b = some o := by
  have hk : ∀ b o, ownedBy fa ρ σ b → s.heap.get? b = some o → s'.heap.get? b = some o := fun b o hb e => g'.x b o (by rw [hid_pos hb]; exact e)
  refine ⟨{ f := g'.f, x := fun a o e => ?_, fx := fun a o e => ?_, base := g'.base, apart := g.apart, own := fun t a l m => ?_, objs := fun l m e => ?_, len := g.len, gens := g'.gens, os := g'.os, tpos := g'.tpos, ft := g'.ft }, hk⟩
  · by_cases hb : ownedBy fa ρ σ a
    · obtain ⟨t, l, m⟩ := hb
      rw [(g.own t a l m).2.1] at e; cases e
    · exact g'.x a o (by rw [hid_neg hb]; exact e)
  · have := g'.fx a o e
    by_cases hb : ownedBy fa ρ σ a
    · obtain ⟨t, l, m⟩ := hb
      exact (g.own t a l m).2.1
    · rw [hid_neg hb] at this; exact this
  · obtain ⟨q1, q2, o, q3⟩ := g.own t a l m
    have hb : ownedBy fa ρ σ a := ⟨t, l, m⟩
    refine ⟨?_, q2, o, hk a o hb q3⟩
    cases e : F'.o a with
    | none => rfl
    | some o' =>
      have := g'.fx a o' e
      rw [hid_pos hb, q3] at this; cases this
  · obtain ⟨r, h1, h2⟩ := g.objs l m e
    exact ⟨r, h1, h2.mono hle (List.prefix_refl _) fun b hb o ho => hk b o ⟨.loc l, ⟨m, e⟩, by rw [adrs_loc h1]; exact hb⟩ ho⟩

theorem adrs_nil_loc {l : Nat} : adrs [] ρ (.loc l) = adrs fa ρ (.loc l) := rfl
theorem G.hideFr (g : G c F X fa ρ σ s) : G c F (hid (ownedFr fa) X s.heap) [] ρ σ s := by
  have noFr : ∀ i a, ¬ a ∈ adrs ([] : List (Option Addr)) ρ (.fr i) := fun i a h => by simp [adrs] at h
  refine g.hideX (fun b ⟨i, h⟩ => ⟨.fr i, trivial, adrs_fr.mpr h⟩) ?_ ?_ g.objs g.len
  · intro t t' a h h' m m'
    cases t with
    | fr i => exact (noFr i a m).elim
    | loc l => cases t' with
      | fr i => exact (noFr i a m').elim
      | loc l' => exact g.apart _ _ a h h' m m'
  · intro t a h m
    cases t with
    | fr i => exact (noFr i a m).elim
    | loc l =>
      refine ⟨⟨.loc l, h, m⟩, fun ⟨i, hi⟩ => ?_⟩
      have := g.apart (.loc l) (.fr i) a h trivial m (adrs_fr.mpr hi)
      cases this

theorem G.unhideFr (g : G c F X fa ρ σ s) {fa2 : List (Option Addr)} (g' : G c F' (hid (ownedFr fa) X s.heap) fa2 ρ' σ' s') :
    G c F' X fa ρ' σ' s' ∧ ∀ b o, ownedFr fa b → s.heap.get? b = some o → s'.heap.get? b = some o := by
  have hk : ∀ b o, ownedFr fa b → s.heap.get? b = some o → s'.heap.get? b = some o := fun b o hb e => g'.x b o (by rw [hid_pos hb]; exact e)
  have fr : ∀ i a, fa[i]? = some (some a) → F.o a = none ∧ X a = none ∧ ∃ o, s.heap.get? a = some o := fun i a h => g.own (.fr i) a trivial (adrs_fr.mpr h)
  refine ⟨{ f := g'.f, x := fun a o e => ?_, fx := fun a o e => ?_, base := g'.base, apart := ?_, own := fun t a l m => ?_, objs := g'.objs, len := g'.len, gens := g'.gens, os := g'.os, tpos := g'.tpos, ft := g'.ft }, hk⟩
  · by_cases hb : ownedFr fa a
    · obtain ⟨i, hi⟩ := hb
      rw [(fr i a hi).2.1] at e; cases e
    · exact g'.x a o (by rw [hid_neg hb]; exact e)
  · have := g'.fx a o e
    by_cases hb : ownedFr fa a
    · obtain ⟨i, hi⟩ := hb
      exact (fr i a hi).2.1
    · rw [hid_neg hb] at this; exact this
  · have locFr : ∀ l i a, liveT σ' (.loc l) → a ∈ adrs fa ρ' (.loc l) → a ∈ adrs fa ρ' (.fr i) → False := fun l i a h m m' => by
      have q := (g'.own (.loc l) a h m).2.1
      have hi := adrs_fr.mp m'
      obtain ⟨_, _, o, e⟩ := fr i a hi
      rw [hid_pos ⟨i, hi⟩, e] at q; cases q
    intro t t' a h h' m m'
    cases t with
    | fr i => cases t' with
      | fr j => exact g.apart (.fr i) (.fr j) a trivial trivial (adrs_fr.mpr (adrs_fr.mp m)) (adrs_fr.mpr (adrs_fr.mp m'))
      | loc l => exact (locFr l i a h' m' m).elim
    | loc l => cases t' with
      | fr i => exact (locFr l i a h m m').elim
      | loc l' => exact g'.apart (.loc l) (.loc l') a h h' m m'
  · cases t with
    | fr i =>
      have hi := adrs_fr.mp m
      obtain ⟨q1, q2, o, q3⟩ := fr i a hi
      refine ⟨?_, q2, o, hk a o ⟨i, hi⟩ q3⟩
      cases e : F'.o a with
      | none => rfl
      | some o' =>
        have := g'.fx a o' e
        rw [hid_pos ⟨i, hi⟩, q3] at this; cases this
    | loc k =>
      obtain ⟨q1, q2, q3⟩ := g'.own (.loc k) a l m
      refine ⟨q1, ?_, q3⟩
      by_cases hb : ownedFr fa a
      · obtain ⟨i, hi⟩ := hb
        exact (fr i a hi).2.1
      · rw [hid_neg hb] at q2; exact q2

/-- a new frame -/
theorem G.newFr (g : G c F X [] ρ σ s) (h : ∀ (i : Nat) a, fa[i]? = some (some a) → F.o a = none ∧ X a = none ∧ (∀ t, liveT σ t → a ∉ adrs [] ρ t) ∧ ∃ o, s.heap.get? a = some o)
    (hi : ∀ (i j : Nat) a, fa[i]? = some (some a) → fa[j]? = some (some a) → i = j) : G c F X fa ρ σ s where
  f := g.f
  x := g.x
  fx := g.fx
  base := g.base
  apart := fun t t' a l l' m m' => by
    cases t with
    | fr i => cases t' with
      | fr j => rw [hi i j a (adrs_fr.mp m) (adrs_fr.mp m')]
      | loc k => exact absurd m' ((h i a (adrs_fr.mp m)).2.2.1 (.loc k) l')
    | loc k => cases t' with
      | fr j => exact absurd m ((h j a (adrs_fr.mp m')).2.2.1 (.loc k) l)
      | loc k' => exact g.apart (.loc k) (.loc k') a l l' m m'
  own := fun t a l m => by
    cases t with
    | fr i => obtain ⟨a1, a2, _, a3⟩ := h i a (adrs_fr.mp m); exact ⟨a1, a2, a3⟩
    | loc k => exact g.own (.loc k) a l m
  objs := g.objs
  len := g.len
  gens := g.gens
  os := g.os
  tpos := g.tpos
  ft := g.ft

/-- protect an object that is nobody's, for the time of a loop's turn -/
theorem G.guard (g : G c F X fa ρ σ s) {a : Addr} {o : Obj} (ho : s.heap.get? a = some o) (hF : F.o a = none) (hO : ∀ t, liveT σ t → a ∉ adrs fa ρ t) : G c F (upd X a o) fa ρ σ s where
  f := g.f
  x := fun b o' e => by
    unfold upd at e; split at e
    · rename_i q; cases e; rw [q]; exact ho
    · exact g.x b o' e
  fx := fun b o' e => by
    rw [upd_ne]; exact g.fx b o' e
    intro q; rw [q, hF] at e; cases e
  base := g.base
  apart := g.apart
  own := fun t b l m => by
    obtain ⟨q1, q2, q3⟩ := g.own t b l m
    refine ⟨q1, ?_, q3⟩
    rw [upd_ne]; exact q2
    intro e; exact hO t l (e ▸ m)
  objs := g.objs
  len := g.len
  gens := g.gens
  os := g.os
  tpos := g.tpos
  ft := g.ft
theorem G.unguard {a : Addr} {o : Obj} (hX : X a = none) (g : G c F (upd X a o) fa ρ σ s) : G c F X fa ρ σ s ∧ s.heap.get? a = some o ∧ F.o a = none ∧ ∀ t, liveT σ t → a ∉ adrs fa ρ t := by
  have le : ∀ b o', X b = some o' → upd X a o b = some o' := upd_get hX
  refine ⟨{ f := g.f, x := fun b o' e => g.x b o' (le b o' e), fx := fun b o' e => ?_, base := g.base, apart := g.apart, own := fun t b l m => ?_, objs := g.objs, len := g.len, gens := g.gens, os := g.os, tpos := g.tpos, ft := g.ft }, g.x a o upd_self, ?_, ?_⟩
  · have := g.fx b o' e
    unfold upd at this; split at this
    · cases this
    · exact this
  · obtain ⟨q1, q2, q3⟩ := g.own t b l m
    refine ⟨q1, ?_, q3⟩
    unfold upd at q2; split at q2
    · cases q2
    · exact q2
  · cases e : F.o a with
    | none => rfl
    | some o' => have := g.fx a o' e; rw [upd_self] at this; cases this
  · intro t l m
    have := (g.own t a l m).2.1
    rw [upd_self] at this; cases this

/-- keep one live object, hide all else: for a call that turns one list -/
theorem G.hideBut (g : G c F X fa ρ σ s) {l : Nat} {m : MObj} {r : List Addr} (hl : σ[l]? = some (some m)) (hr : ρ[l]? = some r) (hm : ObjR c.C F [r] s.heap r m) :
    G c F (hid (ownedBut l fa ρ σ) X s.heap) [] [r] [some m] s := by
  have one : ∀ t a, liveT [some m] t → a ∈ adrs [] [r] t → t = .loc 0 ∧ a ∈ r := by
    intro t a h ha
    cases t with
    | fr i => simp [adrs] at ha
    | loc k =>
      cases k with
      | zero => exact ⟨rfl, by simpa [adrs] using ha⟩
      | succ k => simp [adrs] at ha
  refine g.hideX (fun b ⟨t, _, h, m⟩ => ⟨t, h, m⟩) ?_ ?_ ?_ rfl
  · intro t t' a h h' a1 a2; rw [(one t a h a1).1, (one t' a h' a2).1]
  · intro t a h a1
    have q := (one t a h a1).2
    have q' : a ∈ adrs fa ρ (.loc l) := by rw [adrs_loc hr]; exact q
    exact ⟨⟨.loc l, ⟨m, hl⟩, q'⟩, fun ⟨t', hne, h', m'⟩ => hne (g.apart _ _ a h' ⟨m, hl⟩ m' q')⟩
  · intro k m' e
    cases k with
    | zero => simp at e; subst e; exact ⟨r, rfl, hm⟩
    | succ k => simp at e
theorem G.unhideBut (g : G c F X fa ρ σ s) {l : Nat} {m m' : MObj} {r : List Addr} (hl : σ[l]? = some (some m)) (hr : ρ[l]? = some r)
    (g' : G c F' (hid (ownedBut l fa ρ σ) X s.heap) [] [r] [some m'] s') (hle : PLe F F') (hm : ObjR c.C F' ρ s'.heap r m') :
    G c F' X fa ρ (σ.set l (some m')) s' ∧ ∀ b o, ownedFr fa b → s.heap.get? b = some o → s'.heap.get? b = some o := by
  have hlt : l < σ.length := (List.getElem?_eq_some_iff.mp hl).1
  have hk : ∀ b o, ownedBut l fa ρ σ b → s.heap.get? b = some o → s'.heap.get? b = some o := fun b o hb e => g'.x b o (by rw [hid_pos hb]; exact e)
  have lv : ∀ t, liveT (σ.set l (some m')) t → liveT σ t := by
    intro t ht
    cases t with
    | fr i => trivial
    | loc k =>
      obtain ⟨q, e⟩ := ht
      by_cases hkl : k = l
      · subst hkl; exact ⟨m, hl⟩
      · rw [List.getElem?_set_ne (Ne.symm hkl)] at e; exact ⟨q, e⟩
  refine ⟨{ f := g'.f, x := fun a o e => ?_, fx := fun a o e => ?_, base := g'.base, apart := fun t t' a h h' => g.apart t t' a (lv t h) (lv t' h'), own := fun t a h m1 => ?_, objs := fun k q e => ?_, len := by simpa using g.len, gens := g'.gens, os := g'.os, tpos := g'.tpos, ft := g'.ft },
    fun b o ⟨i, hi⟩ e => hk b o ⟨.fr i, (fun q => by cases q), trivial, adrs_fr.mpr hi⟩ e⟩
  · by_cases hb : ownedBut l fa ρ σ a
    · obtain ⟨t, _, h, m1⟩ := hb
      rw [(g.own t a h m1).2.1] at e; cases e
    · exact g'.x a o (by rw [hid_neg hb]; exact e)
  · have := g'.fx a o e
    by_cases hb : ownedBut l fa ρ σ a
    · obtain ⟨t, _, h, m1⟩ := hb
      exact (g.own t a h m1).2.1
    · rw [hid_neg hb] at this; exact this
  · obtain ⟨q1, q2, o, q3⟩ := g.own t a (lv t h) m1
    by_cases ht : t = .loc l
    · subst ht
      rw [adrs_loc hr] at m1
      obtain ⟨p1, p2, p3⟩ := g'.own (.loc 0) a ⟨m', rfl⟩ (by simpa [adrs] using m1)
      exact ⟨p1, q2, p3⟩
    · have hb : ownedBut l fa ρ σ a := ⟨t, ht, lv t h, m1⟩
      refine ⟨?_, q2, o, hk a o hb q3⟩
      cases e : F'.o a with
      | none => rfl
      | some o' =>
        have := g'.fx a o' e
        rw [hid_pos hb, q3] at this; cases this
  · by_cases hkl : k = l
    · subst hkl
      rw [List.getElem?_set_self hlt] at e; cases e
      exact ⟨r, hr, hm⟩
    · rw [List.getElem?_set_ne (Ne.symm hkl)] at e
      obtain ⟨r', h1, h2⟩ := g.objs k q e
      exact ⟨r', h1, h2.mono hle (List.prefix_refl _) fun b hb o ho => hk b o ⟨.loc k, (fun x => hkl (by cases x; rfl)), ⟨q, e⟩, by rw [adrs_loc h1]; exact hb⟩ ho⟩
end
end Ev
end
section
set_option maxRecDepth 100000
set_option autoImplicit false
namespace Ev
open PySem PySem.W PySem.Calls PyProof.Rows

/-- what stands at the base, for good -/
structure Bas (c : Cx) : Prop where
  K : c.K.In c.B
  g : ∃ mg, c.B.Ns mainGlobals mg
  b : ∃ mb, c.B.Ns builtinsNs mb ∧ ∀ x : Str, x ≠ "__name__" → mb x = bootBuiltins x
  nolimit : c.B.NoLimit

structure FrR (c : Cx) (nm : List (Str × NameKind)) (F : FM) (X : PMap) (ρ : List (List Addr)) (env : Env) (fa : List (Option Addr)) (vars : List (Option D)) (h : Heap) : Prop where
  kindF : env.scope.kind = .function
  glob : env.globals = mainGlobals
  bi : env.builtins = builtinsNs
  nd : (nm.map (·.1)).Nodup
  len : vars.length = nm.length
  l0 : fa[0]? = some (some env.locals)
  kinds : ∀ x k, nm.lookup x = some k → (k = .free → env.kindOf x = some .cell ∨ env.kindOf x = some .free) ∧ (k ≠ .free → env.kindOf x = some k)
  ns : ∃ m, h.Ns env.locals m ∧ ∀ (i : Nat) x d, nm[i]? = some (x, .local) → vars[i]? = some (some d) → ∃ v, m x = some v ∧ Rv c.C F ρ v d
  cell : ∀ (i : Nat) x, nm[i]? = some (x, .cell) → ∃ a w, env.cells.lookup x = some a ∧ fa[i + 1]? = some (some a) ∧ h.IsCell a w ∧ ∀ d, vars[i]? = some (some d) → ∃ v, w = some v ∧ Rv c.C F ρ v d
  free : ∀ (i : Nat) x d, nm[i]? = some (x, .free) → vars[i]? = some (some d) → ∃ a o v, env.cells.lookup x = some a ∧ X a = some o ∧ o.data = .cell (some v) ∧ Rv c.C F ρ v d

section
variable {c : Cx} {nm : List (Str × NameKind)} {F F' : FM} {X X' : PMap} {fa fa' : List (Option Addr)} {ρ ρ' : List (List Addr)} {σ σ' : Sto} {s s' : Shared} {env : Env} {vars : List (Option D)}

theorem FrR.to {h h' : Heap} (f : FrR c nm F X ρ env fa vars h) (hF : PLe F F') (hρ : ρ <+: ρ') (hh : ∀ (i : Nat) a o, fa[i]? = some (some a) → h.get? a = some o → h'.get? a = some o) : FrR c nm F' X ρ' env fa vars h' where
  kindF := f.kindF
  glob := f.glob
  bi := f.bi
  nd := f.nd
  len := f.len
  l0 := f.l0
  kinds := f.kinds
  ns := by
    obtain ⟨m, hn, hv⟩ := f.ns
    refine ⟨m, hn.at' fun o e => hh 0 _ o f.l0 e, fun i x d h1 h2 => ?_⟩
    obtain ⟨v, a, b⟩ := hv i x d h1 h2
    exact ⟨v, a, b.mono hF hρ⟩
  cell := fun i x h1 => by
    obtain ⟨a, w, q1, q2, ⟨o, q3, q4⟩, q5⟩ := f.cell i x h1
    refine ⟨a, w, q1, q2, ⟨o, hh _ a o q2 q3, q4⟩, fun d hd => ?_⟩
    obtain ⟨v, e, r⟩ := q5 d hd
    exact ⟨v, e, r.mono hF hρ⟩
  free := fun i x d h1 h2 => by
    obtain ⟨a, o, v, q1, q2, q3, q4⟩ := f.free i x d h1 h2
    exact ⟨a, o, v, q1, q2, q3, q4.mono hF hρ⟩
theorem FrR.guard {h : Heap} {a : Addr} {o : Obj} (hX : X a = none) (f : FrR c nm F X ρ env fa vars h) : FrR c nm F (upd X a o) ρ env fa vars h := by
  refine { f with free := ?_ }
  intro i x d h1 h2
  obtain ⟨b, o', v, q1, q2, q3, q4⟩ := f.free i x d h1 h2
  exact ⟨b, o', v, q1, upd_get hX b o' q2, q3, q4⟩
theorem FrR.unguard {h : Heap} {a : Addr} {o : Obj} (hc : ∀ w, o.data ≠ .cell w) (f : FrR c nm F (upd X a o) ρ env fa vars h) : FrR c nm F X ρ env fa vars h := by
  refine { f with free := ?_ }
  intro i x d h1 h2
  obtain ⟨b, o', v, q1, q2, q3, q4⟩ := f.free i x d h1 h2
  refine ⟨b, o', v, q1, ?_, q3, q4⟩
  unfold upd at q2; split at q2
  · cases q2; exact absurd q3 (hc _)
  · exact q2

theorem lookup_idx : ∀ {nm : List (Str × NameKind)} {i : Nat} {x : Str} {k : NameKind}, (nm.map (·.1)).Nodup → nm[i]? = some (x, k) → nm.lookup x = some k
  | [], i, x, k, _, h => by simp at h
  | (y, j) :: r, 0, x, k, _, h => by simp at h; obtain ⟨rfl, rfl⟩ := h; simp [List.lookup_cons]
  | (y, j) :: r, i + 1, x, k, nd, h => by
    have h' : r[i]? = some (x, k) := by simpa using h
    simp only [List.map_cons, List.nodup_cons] at nd
    have hne : (x == y) = false := by
      rw [beq_eq_false_iff_ne]; intro e; subst e
      exact nd.1 (List.mem_map.mpr ⟨(x, k), List.mem_of_getElem? h', rfl⟩)
    rw [List.lookup_cons, hne]
    exact lookup_idx nd.2 h'
theorem name_idx : ∀ {nm : List (Str × NameKind)} {i j : Nat} {x : Str} {k k' : NameKind}, (nm.map (·.1)).Nodup → nm[i]? = some (x, k) → nm[j]? = some (x, k') → i = j
  | [], i, _, _, _, _, _, h, _ => by simp at h
  | (y, q) :: r, 0, 0, _, _, _, _, _, _ => rfl
  | (y, q) :: r, 0, j + 1, x, k, k', nd, h, h' => by
    simp at h; obtain ⟨rfl, rfl⟩ := h
    simp only [List.map_cons, List.nodup_cons] at nd
    exact absurd (List.mem_map.mpr ⟨(y, k'), List.mem_of_getElem? (by simpa using h'), rfl⟩) nd.1
  | (y, q) :: r, i + 1, 0, x, k, k', nd, h, h' => by
    simp at h'; obtain ⟨rfl, rfl⟩ := h'
    simp only [List.map_cons, List.nodup_cons] at nd
    exact absurd (List.mem_map.mpr ⟨(y, k), List.mem_of_getElem? (by simpa using h), rfl⟩) nd.1
  | (y, q) :: r, i + 1, j + 1, x, k, k', nd, h, h' => by
    simp only [List.map_cons, List.nodup_cons] at nd
    exact congrArg (· + 1) (name_idx nd.2 (by simpa using h) (by simpa using h'))

variable {prog : Program} {w : World} {A : Around} {E : Value → Shared → Prop}

theorem FrR.load {M : Model} {i : Nat} {x : Str} {k : NameKind} {pos : Pos} {d : D} {Q : Value → Shared → Prop} (f : FrR c nm F X ρ env fa vars s.heap) (g : G c F X fa ρ σ s)
    (hx : nm[i]? = some (x, k)) (hk : k = .local ∨ k = .cell ∨ k = .free) (hd : vars[i]? = some (some d)) (hdb : (x == ("__debug__" : Str)) = false) (hcd : (x == ("__classdict__" : Str)) = false)
    (h : ∀ v, Rv c.C F ρ v d → Q v s) : wpAny M A (eval (.Name x pos) env) Q E s := by
  have hl := lookup_idx f.nd hx
  have hk' := f.kinds x k hl
  rcases hk with rfl | rfl | rfl
  · obtain ⟨m, hn, hv⟩ := f.ns
    obtain ⟨v, e, r⟩ := hv i x d hx hd
    exact wpAny_Name (wpAny_loadName_local f.kindF (hk'.2 (by decide)) hn e (h v r)) hdb
  · obtain ⟨a, w, q1, q2, q3, q4⟩ := f.cell i x hx
    obtain ⟨v, rfl, r⟩ := q4 d hd
    exact wpAny_Name (wpAny_loadName_cell f.kindF (hk'.2 (by decide)) q1 q3 (h v r)) hdb
  · obtain ⟨a, o, v, q1, q2, q3, q4⟩ := f.free i x d hx hd
    have hc : s.heap.IsCell a (some v) := ⟨o, g.x a o q2, q3⟩
    rcases hk'.1 rfl with e | e
    · exact wpAny_Name (wpAny_loadName_cell f.kindF e q1 hc (h v q4)) hdb
    · exact wpAny_Name (wpAny_loadName_free f.kindF e q1 hc (h v q4) hcd) hdb

theorem FrR.store {M : Model} {i : Nat} {x : Str} {k : NameKind} {v : Value} {d : D} {Q : Unit → Shared → Prop} (f : FrR c nm F X ρ env fa vars s.heap) (g : G c F X fa ρ σ s)
    (hx : nm[i]? = some (x, k)) (hk : k = .local ∨ k = .cell) (hv : Rv c.C F ρ v d)
    (h : ∀ s', G c F X fa ρ σ s' → FrR c nm F X ρ env fa (vars.set i (some d)) s'.heap → Q () s') : wpAny M A (storeName env x v) Q E s := by
  have hl := lookup_idx f.nd hx
  have hk' := f.kinds x k hl
  have hi : i < vars.length := by rw [f.len]; exact (List.getElem?_eq_some_iff.mp hx).1
  rcases hk with rfl | rfl
  · obtain ⟨m, hn, hm⟩ := f.ns
    refine wpAny_storeName_local (hk'.2 (by decide)) hn (fun h' hn' hs' => ?_) (by rw [f.kindF]; rfl)
    have g' : G c F X fa ρ σ { s with heap := h', toks := s.toks + 1 } := g.turnFr f.l0 (fun b o hb e => (hs'.2 b hb).trans e) (let ⟨o, _, _, e, _⟩ := hn'; ⟨o, e⟩) (Nat.le_succ _)
    refine h _ g' { f with len := by simpa using f.len, ns := ⟨_, hn', fun j y e h1 h2 => ?_⟩, cell := fun j y h1 => ?_, free := fun j y e h1 h2 => ?_ }
    · by_cases hij : j = i
      · subst hij
        rw [hx] at h1; cases h1
        rw [List.getElem?_set_self hi] at h2; cases h2
        exact ⟨v, by simp, hv⟩
      · rw [List.getElem?_set_ne (Ne.symm hij)] at h2
        obtain ⟨u, e1, e2⟩ := hm j y e h1 h2
        refine ⟨u, ?_, e2⟩
        have : y ≠ x := fun q => hij (name_idx f.nd h1 (q ▸ hx))
        simp [this, e1]
    · obtain ⟨a, w, q1, q2, ⟨o, q3, q4⟩, q5⟩ := f.cell j y h1
      have hne : j ≠ i := fun q => by subst q; rw [hx] at h1; cases h1
      have ha : a ≠ env.locals := fun q => by
        have := g.apart (.fr (j + 1)) (.fr 0) a trivial trivial (adrs_fr.mpr q2) (adrs_fr.mpr (q ▸ f.l0))
        cases this
      refine ⟨a, w, q1, q2, ⟨o, (hs'.2 a ha).trans q3, q4⟩, fun e he => ?_⟩
      rw [List.getElem?_set_ne (Ne.symm hne)] at he
      exact q5 e he
    · have hne : j ≠ i := fun q => by subst q; rw [hx] at h1; cases h1
      rw [List.getElem?_set_ne (Ne.symm hne)] at h2
      exact f.free j y e h1 h2
  · obtain ⟨a, w, q1, q2, q3, q4⟩ := f.cell i x hx
    refine wpAny_storeName_cell f.kindF (hk'.2 (by decide)) q1 q3 fun h' hc' hs' => ?_
    have g' : G c F X fa ρ σ { s with heap := h' } := g.turnFr (tk := s.toks) q2 (fun b o hb e => (hs'.2 b hb).trans e) (let ⟨o, e, _⟩ := hc'; ⟨o, e⟩) (Nat.le_refl _)
    refine h _ g' { f with len := by simpa using f.len, ns := ?_, cell := fun j y h1 => ?_, free := fun j y e h1 h2 => ?_ }
    · obtain ⟨m, hn, hm⟩ := f.ns
      have ha : env.locals ≠ a := fun q => by
        have := g.apart (.fr (i + 1)) (.fr 0) a trivial trivial (adrs_fr.mpr q2) (adrs_fr.mpr (q ▸ f.l0))
        cases this
      refine ⟨m, hn.sameBut hs' ha, fun j y e h1 h2 => ?_⟩
      have hne : j ≠ i := fun q => by subst q; rw [hx] at h1; cases h1
      rw [List.getElem?_set_ne (Ne.symm hne)] at h2
      exact hm j y e h1 h2
    · by_cases hij : j = i
      · subst hij
        rw [hx] at h1; cases h1
        refine ⟨a, some v, q1, q2, hc', fun e he => ?_⟩
        rw [List.getElem?_set_self hi] at he; cases he
        exact ⟨v, rfl, hv⟩
      · obtain ⟨a', w', p1, p2, ⟨o, p3, p4⟩, p5⟩ := f.cell j y h1
        have ha : a' ≠ a := fun q => by
          have := g.apart (.fr (j + 1)) (.fr (i + 1)) a trivial trivial (adrs_fr.mpr (q ▸ p2)) (adrs_fr.mpr q2)
          cases this; exact hij rfl
        refine ⟨a', w', p1, p2, ⟨o, (hs'.2 a' ha).trans p3, p4⟩, fun e he => ?_⟩
        rw [List.getElem?_set_ne (Ne.symm hij)] at he
        exact p5 e he
    · have hne : j ≠ i := fun q => by subst q; rw [hx] at h1; cases h1
      rw [List.getElem?_set_ne (Ne.symm hne)] at h2
      exact f.free j y e h1 h2

/-- a global name of the text | a built-in's -/
theorem FrR.global {M : Model} {x : Str} {pos : Pos} {v : Value} {Q : Value → Shared → Prop} (Z : Bas c) (f : FrR c nm F X ρ env fa vars s.heap) (g : G c F X fa ρ σ s)
    (hk : nm.lookup x = some .globalImplicit) (e : nsIn c.K mainGlobals x = some (some v)) (hdb : (x == ("__debug__" : Str)) = false) (h : Q v s) : wpAny M A (eval (.Name x pos) env) Q E s := by
  obtain ⟨mg, hg⟩ := Z.g
  have kp : ∀ b o, c.B.get? b = some o → s.heap.get? b = some o := fun b o q => g.f b o (g.base b o q)
  exact Name_function_global f.kindF ((f.kinds x _ hk).2 (by decide)) (loadGlobal_global (mg := mg) (by rw [f.glob]; exact hg.keeps kp) (mg_of Z.K hg e) h) hdb
theorem FrR.builtin {M : Model} {x : Str} {pos : Pos} {v : Value} {Q : Value → Shared → Prop} (Z : Bas c) (f : FrR c nm F X ρ env fa vars s.heap) (g : G c F X fa ρ σ s)
    (hk : nm.lookup x = some .globalImplicit) (e : nsIn c.K mainGlobals x = some none) (hv : bootBuiltins x = some v) (hn : x ≠ "__name__") (hdb : (x == ("__debug__" : Str)) = false) (h : Q v s) : wpAny M A (eval (.Name x pos) env) Q E s := by
  obtain ⟨mg, hg⟩ := Z.g
  obtain ⟨mb, hb, hbb⟩ := Z.b
  have kp : ∀ b o, c.B.get? b = some o → s.heap.get? b = some o := fun b o q => g.f b o (g.base b o q)
  exact Name_function_global f.kindF ((f.kinds x _ hk).2 (by decide)) (loadGlobal_builtin (mg := mg) (mb := mb) (by rw [f.glob]; exact hg.keeps kp) (mg_none_of Z.K hg e) (by rw [f.bi]; exact hb.keeps kp) ((hbb x hn).trans hv) h) hdb
end
end Ev
end
section
set_option maxRecDepth 100000
set_option autoImplicit false
namespace Ev
open PySem

/-! my own syntax -/
inductive Bi where
  | len | max | min | abs | round | sum | sorted | list | tuple | divmod | range | enumerate | zip
  deriving DecidableEq, Repr

inductive T where
  | var (i : Nat)
  | tup (is : List Nat)

inductive E where
  | lit (d : D)
  | var (i : Nat)
  | bin (op : Operator) (a b : E)
  | rep (a n : E)
  | neg (a : E)
  | not (a : E)
  | both (a b : E)
  | either (a b : E)
  | cmp (op : CmpOp) (a b : E)
  | ite (c a b : E)
  | tup (es : List E)
  | lst (es : List E)
  | idx (a i : E)
  | sli (a : E) (lo hi st : Option E)
  | attr (a : E) (k : Nat)
  | call (f : Nat) (es : List E)
  | mcall (f : Nat) (o : E) (es : List E)
  | meth (f : Nat) (o : E) (es : List E)
  | new (a : E)
  | bi (b : Bi) (es : List E)
  | append (o a : E)
  | pop (o : E)
  | join (o a : E)
  | split (o a : E)
  | comp (ini : List (Option Nat)) (elt : E) (t : T) (it : E) (ifs : List E)
  | sortKey (a : E) (ini : List (Option Nat)) (key : E)

inductive S where
  | asg (ts : List T) (e : E)
  | setAttr (o : E) (k : Nat) (e : E)
  | setIdx (o i : E) (e : E)
  | expr (e : E)
  | ret (e : E)
  | ite (c : E) (a b : List S)
  | wh (c : E) (b : List S)
  | for (t : T) (it : E) (b : List S)
  | brk
  | cont

/-! scalars -/
def small (i : Int) : Bool := decide (i.natAbs < 2 ^ 62)
def maxLen : Nat := 2 ^ 20

mutual
def D.beq : D → D → Bool
  | .none, .none => true
  | .bool a, .bool b => a == b
  | .int a, .int b => a == b
  | .flt a, .flt b => a == b
  | .str a, .str b => a == b
  | .tup a, .tup b => D.beqs a b
  | .lst a, .lst b => D.beqs a b
  | .inst a, .inst b => D.beqa a b
  | .loc a, .loc b => a == b
  | _, _ => false
def D.beqs : List D → List D → Bool
  | [], [] => true
  | a :: as, b :: bs => D.beq a b && D.beqs as bs
  | _, _ => false
def D.beqa : List (Nat × D) → List (Nat × D) → Bool
  | [], [] => true
  | (i, a) :: as, (j, b) :: bs => i == j && D.beq a b && D.beqa as bs
  | _, _ => false
end

-- how deep
mutual
def D.dep : D → Nat
  | .tup xs => D.deps xs + 1
  | .lst xs => D.deps xs + 1
  | _ => 0
def D.deps : List D → Nat
  | [] => 0
  | x :: xs => max (D.dep x) (D.deps xs)
end
-- Python's ==
mutual
def eqD : D → D → Option Bool
  | .none, .none => some true
  | .bool a, .bool b => some (a == b)
  | .int a, .int b => some (a == b)
  | .flt a, .flt b => if Float64.isNaN a || Float64.isNaN b then none else some (Float64.cmp a b == some Ordering.eq)
  | .str a, .str b => some (a == b)
  | .tup a, .tup b => eqDs a b
  | .lst a, .lst b => if a.length == b.length then eqDs a b else some false
  | _, _ => none
def eqDs : List D → List D → Option Bool
  | [], [] => some true
  | a :: as, b :: bs => match eqD a b, eqDs as bs with
    | some p, some q => some (p && q)
    | _, _ => none
  | _, _ => some false
end

-- Python's <
mutual
def ltD : D → D → Option Bool
  | .int a, .int b => some (decide (a < b))
  | .flt a, .flt b => if Float64.isNaN a || Float64.isNaN b then none else some (Float64.cmp a b == some Ordering.lt)
  | .tup a, .tup b => ltDs a b
  | _, _ => none
def ltDs : List D → List D → Option Bool
  | [], [] => some false
  | [], _ :: _ => some true
  | _ :: _, [] => some false
  | a :: as, b :: bs => match eqD a b with
    | some true => ltDs as bs
    | some false => ltD a b
    | none => none
end

def cmpD (op : CmpOp) (a b : D) : Option Bool := match op, a, b with
  | .Eq, a, b => eqD a b
  | .NotEq, a, b => (eqD a b).map (!·)
  | .Lt, a, b => ltD a b
  | .LtE, .int a, .int b => some (decide (a ≤ b))
  | .Gt, .int a, .int b => some (decide (a > b))
  | .GtE, .int a, .int b => some (decide (a ≥ b))
  | .LtE, .flt a, .flt b => some (Float64.cmp a b == some Ordering.lt || Float64.cmp a b == some Ordering.eq)
  | .Gt, .flt a, .flt b => some (Float64.cmp a b == some Ordering.gt)
  | .GtE, .flt a, .flt b => some (Float64.cmp a b == some Ordering.gt || Float64.cmp a b == some Ordering.eq)
  | _, _, _ => none

def allBool : List D → Option (List Bool)
  | [] => some []
  | .bool b :: r => (allBool r).map (b :: ·)
  | _ :: _ => none
def inD (a b : D) : Option Bool := match a, b with
  | .bool a, .lst xs => (allBool xs).map (·.contains a)
  | _, _ => none

def isFlt : D → Bool
  | .flt _ => true
  | _ => false
def bitsOk (i : Int) : Bool := !Float64.isInf (Float64.ofInt i)
def binD (op : Operator) (a b : D) : Option D := match op, a, b with
  | .Add, .int a, .int b => some (.int (a + b))
  | .Sub, .int a, .int b => some (.int (a - b))
  | .Mult, .int a, .int b => if small a || small b then some (.int (a * b)) else none
  | .FloorDiv, .int a, .int b => if b == 0 || !small b then none else some (.int (a.fdiv b))
  | .Mod, .int a, .int b => if b == 0 then none else some (.int (a.fmod b))
  | .RShift, .int a, .int b => if 0 ≤ b ∧ b ≤ 64 then some (.int (a.fdiv (2 ^ b.toNat))) else none
  | .Pow, .int a, .int b => if small a && decide (0 ≤ b ∧ b ≤ 64) then some (.int (a ^ b.toNat)) else none
  | .Div, .int a, .int b => if b == 0 || Float64.isInf (Float64.ofFrac (decide (a < 0) != decide (b < 0)) a.natAbs b.natAbs) then none else some (.flt (Float64.ofFrac (decide (a < 0) != decide (b < 0)) a.natAbs b.natAbs))
  | .Add, .flt a, .flt b => some (.flt (Float64.add a b))
  | .Sub, .flt a, .flt b => some (.flt (Float64.sub a b))
  | .Mult, .flt a, .flt b => some (.flt (Float64.mul a b))
  | .Div, .flt a, .flt b => if Float64.isZero b then none else some (.flt (Float64.div a b))
  | .Mod, .flt a, .flt b => if Float64.isZero b then none else some (.flt (Float64.divmod a b).2)
  | .Div, .int a, .flt b => if !bitsOk a || Float64.isZero b then none else some (.flt (Float64.div (Float64.ofInt a) b))
  | .Mult, .int a, .flt b => if !bitsOk a then none else some (.flt (Float64.mul (Float64.ofInt a) b))
  | .Add, .str a, .str b => if a.length + b.length ≤ maxLen then some (.str (a ++ b)) else none
  | .Mult, .str a, .int n => if small n && decide (a.length * n.toNat ≤ maxLen) then some (.str (List.replicate n.toNat a).flatten) else none
  | _, _, _ => none

def truthD : D → Option Bool
  | .bool b => some b
  | .int i => some (!(i == 0))
  | .lst xs => if xs.length ≤ maxLen then some (!xs.isEmpty) else none
  | _ => none

def idxD (a i : D) : Option D := match a, i with
  | .lst xs, .int i => if 0 ≤ i ∧ small i then xs[i.toNat]? else none
  | .tup xs, .int i => if 0 ≤ i ∧ small i then xs[i.toNat]? else none
  | _, _ => none

/-- a slice of a list -/
def sliD (a : D) (lo hi st : Option Int) : Option D := match a with
  | .lst xs => if xs.length ≤ maxLen ∧ st ≠ some 0 then
      some (.lst ((sliceRange (sliceBounds lo hi st xs.length).1 (sliceBounds lo hi st xs.length).2.1 (sliceBounds lo hi st xs.length).2.2).filterMap (xs[·]?))) else none
  | _ => none

/-- the first that is the greatest | least, by Python's own > | < -/
def pickBest (gt : D → D → Option Bool) : D → List D → Option D
  | b, [] => some b
  | b, x :: xs => match gt x b with
    | some true => pickBest gt x xs
    | some false => pickBest gt b xs
    | none => none
def num : D → Bool
  | .int _ => true
  | .flt _ => true
  | _ => false
def bestOf (op : CmpOp) (xs : List D) : Option D := match xs with
  | x :: r => if xs.all num then pickBest (cmpD op) x r else none
  | [] => none

def intsOf : List D → Option (List Int)
  | [] => some []
  | .int i :: r => (intsOf r).map (i :: ·)
  | _ :: _ => none
def sumInts : List Int → Int
  | [] => 0
  | i :: r => i + sumInts r

def insD (x : D) : List D → Option (List D)
  | [] => some [x]
  | y :: ys => match ltD x y with
    | some true => some (x :: y :: ys)
    | some false => (insD x ys).map (y :: ·)
    | none => none
def sortD : List D → Option (List D)
  | [] => some []
  | x :: xs => (sortD xs).bind (insD x)
/-- pairs (key, value), by the key, as they come -/
def insK (x : D × D) : List (D × D) → Option (List (D × D))
  | [] => some [x]
  | y :: ys => match ltD x.1 y.1 with
    | some true => some (x :: y :: ys)
    | some false => (match ltD y.1 x.1 with | some true => (insK x ys).map (y :: ·) | some false => some (x :: y :: ys) | none => none)
    | none => none
def sortK : List (D × D) → Option (List (D × D))
  | [] => some []
  | x :: xs => (sortK xs).bind (insK x)

def roundD (x : UInt64) : Option Int := match Float64.decode x with
  | .fin s m e => some (Float64.nearestOf s m e)
  | _ => none

def joinD (sep : List Nat) : List D → Option (List Nat)
  | [] => some []
  | [.str a] => some a
  | .str a :: r => (joinD sep r).map (a ++ sep ++ ·)
  | _ => none
/-- split at each sign c -/
def splitAt1 (c : Nat) : List Nat → List (List Nat)
  | [] => [[]]
  | x :: xs => if x == c then [] :: splitAt1 c xs else match splitAt1 c xs with
    | w :: ws => (x :: w) :: ws
    | [] => [[x]]

def biD (b : Bi) (ds : List D) : Option D := match b, ds with
  | .len, [.str a] => if a.length ≤ maxLen then some (.int a.length) else none
  | .len, [.lst a] => if a.length ≤ maxLen then some (.int a.length) else none
  | .len, [.tup a] => if a.length ≤ maxLen then some (.int a.length) else none
  | .max, [.lst xs] => bestOf .Gt xs
  | .min, [.lst xs] => bestOf .Lt xs
  | .max, [a, b] => bestOf .Gt [a, b]
  | .min, [a, b] => bestOf .Lt [a, b]
  | .max, [a, b, c] => bestOf .Gt [a, b, c]
  | .min, [a, b, c] => bestOf .Lt [a, b, c]
  | .abs, [.int a] => some (.int (if a < 0 then -a else a))
  | .round, [.flt x] => (roundD x).map .int
  | .sum, [.lst xs] => (intsOf xs).map fun is => .int (sumInts is)
  | .sorted, [.lst xs] => (sortD xs).map .lst
  | .tuple, [.lst xs] => if xs.length ≤ maxLen then some (.tup xs) else none
  | .divmod, [.int a, .int b] => if b == 0 || !small b then none else some (.tup [.int (a.fdiv b), .int (a.fmod b)])
  | _, _ => none

def rangeD (a b : Int) : List D := (List.range (b - a).toNat).map fun (k : Nat) => .int (a + (k : Int))

/-! the state -/
abbrev Vars := List (Option D)
inductive Flw where
  | next | brk | cont
  | ret (d : D)

structure Dl where
  fns : Nat → List D → Option D
  muts : Nat → List D → List D → Option (D × List D)
  new : D → Option D
  srt : Bool := false
  hot : Bool := true
  key : Bool := false
  spl : Bool := false

def setVar (vars : Vars) (i : Nat) (d : D) : Option Vars := if i < vars.length then some (vars.set i (some d)) else none
def setVars : Vars → List Nat → List D → Option Vars
  | vars, [], [] => some vars
  | vars, i :: is, d :: ds => (setVar vars i d).bind fun v => setVars v is ds
  | _, _, _ => none
def asgT (t : T) (d : D) (vars : Vars) : Option Vars := match t, d with
  | .var i, d => setVar vars i d
  | .tup is, .tup ds => if is.length == ds.length then setVars vars is ds else none
  | .tup is, .lst ds => if is.length == ds.length then setVars vars is ds else none
  | _, _ => none
def asgTs : List T → D → Vars → Option Vars
  | [], _, vars => some vars
  | t :: ts, d, vars => (asgT t d vars).bind (asgTs ts d)

def isLst (σ : Sto) : D → Bool
  | .loc l => match σ[l]? with
    | some (some (.lst _)) => true
    | _ => false
  | _ => false
/-- a live list read as a list -/
def res (σ : Sto) : D → Option D
  | .loc l => match σ[l]? with
    | some (some (.lst xs)) => some (.lst xs)
    | _ => none
  | d => some d
def ress (σ : Sto) : List D → Option (List D)
  | [] => some []
  | d :: ds => (res σ d).bind fun x => (ress σ ds).map (x :: ·)
def frz (σ : Sto) : D → Option (D × Sto)
  | .loc l => match σ[l]? with
    | some (some m) => some (m.toD, σ.set l none)
    | _ => none
  | d => some (d, σ)

def isStrings : List Nat → List D
  | [] => []
  | c :: r => .str [c] :: isStrings r

/-- what a for walks over -/
def itemsOf : D → Option (List D)
  | .lst xs => some xs
  | .tup xs => some xs
  | .str a => if a.all (· < 128) then some (isStrings a) else none
  | _ => none

def enumD (k : Nat) : List D → List D
  | [] => []
  | x :: xs => .tup [.int k, x] :: enumD (k + 1) xs
def zipD : List D → List D → List D
  | x :: xs, y :: ys => .tup [x, y] :: zipD xs ys
  | _, _ => []

def forD (f : D → Vars → Sto → Option (Flw × Vars × Sto)) : List D → Vars → Sto → Option (Flw × Vars × Sto)
  | [], vars, σ => some (.next, vars, σ)
  | d :: ds, vars, σ => match f d vars σ with
    | some (.next, vars, σ) => forD f ds vars σ
    | some (.cont, vars, σ) => forD f ds vars σ
    | some (.brk, vars, σ) => some (.next, vars, σ)
    | some (.ret r, vars, σ) => some (.ret r, vars, σ)
    | none => none
def whD (c : Vars → Sto → Option (Bool × Sto)) (f : Vars → Sto → Option (Flw × Vars × Sto)) : Nat → Vars → Sto → Option (Flw × Vars × Sto)
  | 0, _, _ => none
  | n + 1, vars, σ => match c vars σ with
    | some (true, σ) => (match f vars σ with
      | some (.next, vars, σ) => whD c f n vars σ
      | some (.cont, vars, σ) => whD c f n vars σ
      | some (.brk, vars, σ) => some (.next, vars, σ)
      | some (.ret r, vars, σ) => some (.ret r, vars, σ)
      | none => none)
    | some (false, σ) => some (.next, vars, σ)
    | none => none
/-- one comprehension: the element of each item, or none where a test drops it -/
def compD (f : D → Vars → Sto → Option (Option D × Vars × Sto)) : List D → Vars → Sto → Option (List D × Sto)
  | [], _, σ => some ([], σ)
  | d :: ds, vars, σ => match f d vars σ with
    | some (some r, vars, σ) => (match compD f ds vars σ with
      | some (rs, σ) => some (r :: rs, σ)
      | none => none)
    | some (none, vars, σ) => compD f ds vars σ
    | none => none

def whFuel : Nat := 1000
def capOk (vars : Vars) (ini : List (Option Nat)) : Bool := ini.all fun o => match o with | some j => (vars[j]?.join).isSome | none => true
def capture (vars : Vars) (ini : List (Option Nat)) : Vars := ini.map fun o => o.bind fun j => vars[j]?.join

mutual
def evE (Δ : Dl) : Nat → E → Vars → Sto → Option (D × Sto)
  | 0, _, _, _ => none
  | n + 1, e, vars, σ => match e with
    | .lit d => if isFlt d && !Δ.hot then none else some (d, σ)
    | .var i => (vars[i]?.join).map fun d => (d, σ)
    | .bin op a b => (evE Δ n a vars σ).bind fun (x, σ) => (evE Δ n b vars σ).bind fun (y, σ) => (res σ x).bind fun x => (res σ y).bind fun y => match op, x, y with
      | .Add, .lst xs, .lst ys => if xs.length + ys.length ≤ maxLen then some (.loc σ.length, σ ++ [some (.lst (xs ++ ys))]) else none
      | op, x, y => (binD op x y).bind fun d => if isFlt d && !Δ.hot then none else some (d, σ)
    | .rep a k => (evE Δ n a vars σ).bind fun (x, σ) => (evE Δ n k vars σ).bind fun (y, σ) => match y with | .int i => if small i && decide (i.toNat ≤ maxLen) then some (.lst (List.replicate i.toNat x), σ) else none | _ => none
    | .neg a => (evE Δ n a vars σ).bind fun (x, σ) => match x with | .int i => some (.int (-i), σ) | _ => none
    | .not _ => none
    | .both a b => (evE Δ n a vars σ).bind fun (x, σ) => (res σ x).bind fun y => (truthD y).bind fun t => if t then evE Δ n b vars σ else some (x, σ)
    | .either a b => (evE Δ n a vars σ).bind fun (x, σ) => (res σ x).bind fun y => (truthD y).bind fun t => if t then some (x, σ) else evE Δ n b vars σ
    | .cmp op a b => (evE Δ n a vars σ).bind fun (x, σ) => (evE Δ n b vars σ).bind fun (y, σ) => (res σ x).bind fun x => (res σ y).bind fun y => match op with
      | .In => (inD x y).map fun t => (.bool t, σ)
      | .NotIn => (inD x y).map fun t => (.bool !t, σ)
      | op => if x.dep ≤ 50 then (cmpD op x y).map fun t => (.bool t, σ) else none
    | .ite c a b => (trE Δ n c vars σ).bind fun (t, σ) => if t then evE Δ n a vars σ else evE Δ n b vars σ
    | .tup es => (evEs Δ n es vars σ).bind fun (ds, σ) => if ds.length ≤ maxLen then some (.tup ds, σ) else none
    | .lst es => (evEs Δ n es vars σ).bind fun (ds, σ) => if ds.length ≤ maxLen then (match ds with
      | [] => some (.loc σ.length, σ ++ [some (.lst [])])
      | [d] => some (.loc σ.length, σ ++ [some (.lst [d])])
      | ds => some (.lst ds, σ)) else none
    | .idx a i => (evE Δ n a vars σ).bind fun (x, σ) => (evE Δ n i vars σ).bind fun (y, σ) => (res σ x).bind fun x => (idxD x y).map fun d => (d, σ)
    | .sli a lo hi st => (evE Δ n a vars σ).bind fun (x, σ) => (evO Δ n lo vars σ).bind fun (lo, σ) => (evO Δ n hi vars σ).bind fun (hi, σ) => (evO Δ n st vars σ).bind fun (st, σ) => (res σ x).bind fun x => (sliD x lo hi st).map fun d => (d, σ)
    | .attr a k => (evE Δ n a vars σ).bind fun (x, σ) => match x with
      | .inst as => (as.lookup k).map fun d => (d, σ)
      | .loc l => match σ[l]? with
        | some (some (.inst as)) => (as.lookup k).map fun d => (d, σ)
        | _ => none
      | _ => none
    | .call f es => (evEs Δ n es vars σ).bind fun (ds, σ) => if D.pures ds then (Δ.fns f ds).map fun d => (d, σ) else none
    | .meth f o es => (evE Δ n o vars σ).bind fun (x, σ) => match x with
      | .inst as => (evEs Δ n es vars σ).bind fun (ds, σ) => if D.pures (.inst as :: ds) then (Δ.fns f (.inst as :: ds)).map fun d => (d, σ) else none
      | _ => none
    | .mcall f o es => (evE Δ n o vars σ).bind fun (x, σ) => match x with
      | .loc l => (evEs Δ n es vars σ).bind fun (ds, σ) => match σ[l]? with
        | some (some (.lst xs)) => if D.pures ds && D.pures xs then (Δ.muts f xs ds).bind fun (d, xs) => some (d, σ.set l (some (.lst xs))) else none
        | _ => none
      | _ => none
    | .new a => (evE Δ n a vars σ).bind fun (x, σ) => if x.pure then (Δ.new x).map fun d => (d, σ) else none
    | .bi .list [a] => match a with
      | .bi .range es => (itE Δ n (.bi .range es) vars σ).map fun (ds, σ) => (.lst ds, σ)
      | _ => none
    | .bi b es => if b == .sorted && !Δ.srt then none else (evEs Δ n es vars σ).bind fun (ds, σ) => (ress σ ds).bind fun ds => (biD b ds).map fun d => (d, σ)
    | .append o a => (evE Δ n o vars σ).bind fun (x, σ) => if !isLst σ x then none else (evE Δ n a vars σ).bind fun (y, σ) => match x with
      | .loc l => match σ[l]? with
        | some (some (.lst xs)) => if xs.length < maxLen then some (.none, σ.set l (some (.lst (xs ++ [y])))) else none
        | _ => none
      | _ => none
    | .pop o => (evE Δ n o vars σ).bind fun (x, σ) => match x with
      | .loc l => match σ[l]? with
        | some (some (.lst xs)) => if xs.length ≤ maxLen then xs.getLast?.map fun y => (y, σ.set l (some (.lst xs.dropLast))) else none
        | _ => none
      | _ => none
    | .join o a => (evE Δ n o vars σ).bind fun (x, σ) => (evE Δ n a vars σ).bind fun (y, σ) => (res σ y).bind fun y => match x, y with
      | .str s, .lst xs => (joinD s xs).bind fun t => if t.length + xs.length + s.length ≤ maxLen then some (.str t, σ) else none
      | _, _ => none
    | .split o a => if !Δ.spl then none else (evE Δ n o vars σ).bind fun (x, σ) => (evE Δ n a vars σ).bind fun (y, σ) => match x, y with
      | .str s, .str [c] => if s.length ≤ maxLen then some (.lst ((splitAt1 c s).map .str), σ) else none
      | _, _ => none
    | .comp ini elt t it ifs => (itE Δ n it vars σ).bind fun (ds, σ) =>
      if capOk vars ini && decide (ds.length ≤ maxLen) then (compD (fun d vs σ => (asgT t d vs).bind fun vs => (tesE Δ n ifs vs σ).bind fun (ok, σ) => if ok then (evE Δ n elt vs σ).map fun (r, σ) => (some r, vs, σ) else some (none, vs, σ)) ds (capture vars ini) σ).map fun (rs, σ) => (.lst rs, σ) else none
    | .sortKey a ini key => if !Δ.key then none else (evE Δ n a vars σ).bind fun (x, σ) => (res σ x).bind fun x => match x with
      | .lst xs => if !(capOk vars ini && decide (xs.length ≤ maxLen)) then none else (compD (fun d vs σ => (evE Δ n key (vs.set 0 (some d)) σ).map fun (r, σ) => (some r, vs, σ)) xs (capture vars ini) σ).bind fun (ks, σ) => (sortK (ks.zip xs)).map fun r => (.lst (r.map (·.2)), σ)
      | _ => none
def evO (Δ : Dl) : Nat → Option E → Vars → Sto → Option (Option Int × Sto)
  | 0, _, _, _ => none
  | _ + 1, none, _, σ => some (none, σ)
  | n + 1, some e, vars, σ => (evE Δ n e vars σ).bind fun (x, σ) => match x with | .int i => some (some i, σ) | _ => none
def evEs (Δ : Dl) : Nat → List E → Vars → Sto → Option (List D × Sto)
  | 0, _, _, _ => none
  | _ + 1, [], _, σ => some ([], σ)
  | n + 1, e :: es, vars, σ => (evE Δ n e vars σ).bind fun (d, σ) => (evEs Δ n es vars σ).map fun (ds, σ) => (d :: ds, σ)
def trE (Δ : Dl) : Nat → E → Vars → Sto → Option (Bool × Sto)
  | 0, _, _, _ => none
  | n + 1, e, vars, σ => match e with
    | .not a => (trE Δ n a vars σ).map fun (b, σ) => (!b, σ)
    | .both a b => (trE Δ n a vars σ).bind fun (t, σ) => if t then trE Δ n b vars σ else some (false, σ)
    | .either a b => (trE Δ n a vars σ).bind fun (t, σ) => if t then some (true, σ) else trE Δ n b vars σ
    | .ite _ _ _ => none
    | e => (evE Δ n e vars σ).bind fun (x, σ) => (res σ x).bind fun y => (truthD y).map fun t => (t, σ)
def tesE (Δ : Dl) : Nat → List E → Vars → Sto → Option (Bool × Sto)
  | 0, _, _, _ => none
  | _ + 1, [], _, σ => some (true, σ)
  | n + 1, e :: es, vars, σ => (trE Δ n e vars σ).bind fun (t, σ) => if t then tesE Δ n es vars σ else some (false, σ)
def itE (Δ : Dl) : Nat → E → Vars → Sto → Option (List D × Sto)
  | 0, _, _, _ => none
  | n + 1, e, vars, σ => match e with
    | .bi .range es => (evEs Δ n es vars σ).bind fun (ds, σ) => match ds with
      | [.int b] => if small b && decide (b.toNat ≤ maxLen) then some (rangeD 0 b, σ) else none
      | [.int a, .int b] => if small a && small b && decide ((b - a).toNat ≤ maxLen) then some (rangeD a b, σ) else none
      | _ => none
    | .bi .enumerate [a] => (evE Δ n a vars σ).bind fun (x, σ) => (frz σ x).bind fun (x, σ) => match x with
      | .lst xs => if xs.length ≤ maxLen then some (enumD 0 xs, σ) else none
      | _ => none
    | .bi .zip [a, b] => (evE Δ n a vars σ).bind fun (x, σ) => (frz σ x).bind fun (x, σ) => (evE Δ n b vars σ).bind fun (y, σ) => (frz σ y).bind fun (y, σ) => match x, y with
      | .lst xs, .lst ys => if xs.length ≤ maxLen ∧ ys.length ≤ maxLen then some (zipD xs ys, σ) else none
      | _, _ => none
    | e => (evE Δ n e vars σ).bind fun (x, σ) => (frz σ x).bind fun (x, σ) => (itemsOf x).bind fun ds => if ds.length ≤ maxLen then some (ds, σ) else none
end

mutual
def exS (Δ : Dl) : Nat → S → Vars → Sto → Option (Flw × Vars × Sto)
  | 0, _, _, _ => none
  | n + 1, st, vars, σ => match st with
    | .asg ts e => (evE Δ n e vars σ).bind fun (d, σ) => (asgTs ts d vars).map fun vars => (.next, vars, σ)
    | .setAttr o k e => (evE Δ n e vars σ).bind fun (d, σ) => (evE Δ n o vars σ).bind fun (x, σ) => match x with
      | .loc l => match σ[l]? with
        | some (some (.inst as)) => if as.lookup k = none ∧ as.length < 20 then some (.next, vars, σ.set l (some (.inst (as ++ [(k, d)])))) else none
        | _ => none
      | _ => none
    | .setIdx o i e => (evE Δ n e vars σ).bind fun (d, σ) => (evE Δ n o vars σ).bind fun (x, σ) => (evE Δ n i vars σ).bind fun (y, σ) => match x, y with
      | .loc l, .int i => match σ[l]? with
        | some (some (.lst xs)) => if 0 ≤ i ∧ small i ∧ i.toNat < xs.length then some (.next, vars, σ.set l (some (.lst (xs.set i.toNat d)))) else none
        | _ => none
      | _, _ => none
    | .expr e => (evE Δ n e vars σ).bind fun (d, σ) => match d with | .none => some (.next, vars, σ) | _ => none
    | .ret e => (evE Δ n e vars σ).bind fun (d, σ) => (frz σ d).map fun (d, σ) => (.ret d, vars, σ)
    | .ite c a b => (trE Δ n c vars σ).bind fun (t, σ) => if t then exSs Δ n a vars σ else exSs Δ n b vars σ
    | .wh c b => whD (fun vars σ => trE Δ n c vars σ) (fun vars σ => exSs Δ n b vars σ) whFuel vars σ
    | .for t it b => (itE Δ n it vars σ).bind fun (ds, σ) => forD (fun d vars σ => (asgT t d vars).bind fun vars => exSs Δ n b vars σ) ds vars σ
    | .brk => some (.brk, vars, σ)
    | .cont => some (.cont, vars, σ)
def exSs (Δ : Dl) : Nat → List S → Vars → Sto → Option (Flw × Vars × Sto)
  | 0, _, _, _ => none
  | _ + 1, [], vars, σ => some (.next, vars, σ)
  | n + 1, s :: ss, vars, σ => match exS Δ n s vars σ with
    | some (.next, vars, σ) => exSs Δ n ss vars σ
    | r => r
end

/-- a def: how many names, how many of them arguments, its body -/
structure Fn where
  nv : Nat
  np : Nat
  body : List S

def look (σ : Sto) (l : Nat) : Option MObj := σ[l]?.join
def startVars (f : Fn) (args : List D) : Vars := args.map some ++ List.replicate (f.nv - f.np) none
/-- a pure def's answer -/
def runP (Δ : Dl) (n : Nat) (f : Fn) (args : List D) : Option D :=
  if args.length == f.np && D.pures args then
    match exSs Δ n f.body (startVars f args) [] with
    | some (.ret d, _, _) => if d.pure then some d else none
    | _ => none
  else none
/-- a def that turns its first argument, a list -/
def runM (Δ : Dl) (n : Nat) (f : Fn) (xs : List D) (args : List D) : Option (D × List D) :=
  if args.length + 1 == f.np && D.pures args && D.pures xs then
    match exSs Δ n f.body (startVars f (.loc 0 :: args)) [some (.lst xs)] with
    | some (.ret d, _, σ) => (match look σ 0 with | some (.lst ys) => if d.pure && D.pures ys then some (d, ys) else none | _ => none)
    | some (.next, _, σ) => (match look σ 0 with | some (.lst ys) => if D.pures ys then some (.none, ys) else none | _ => none)
    | _ => none
  else none
/-- an __init__ -/
def runI (Δ : Dl) (n : Nat) (f : Fn) (a : D) : Option D :=
  if f.np == 2 && a.pure then
    match exSs Δ n f.body (startVars f [.loc 0, a]) [some (.inst [])] with
    | some (.next, _, σ) => (match look σ 0 with | some (.inst as) => if D.purea as then some (.inst as) else none | _ => none)
    | _ => none
  else none
end Ev
namespace Ev
example (Δ : Dl) (a b : Int) : runP Δ 30 ⟨1, 1, [.ret (.lst [.bin .Sub (.idx (.var 0) (.lit (.int 0))) (.idx (.var 0) (.lit (.int 1))), .idx (.var 0) (.lit (.int 0))])]⟩ [.lst [.int a, .int b]] = some (.lst [.int (a - b), .int a]) := rfl
end Ev
end
section
set_option maxRecDepth 100000
set_option autoImplicit false
namespace Ev
open PySem

/-! the way from the program's syntax to my own -/
structure Cc where
  fns : List Str
  muts : List Str
  meths : List Str
  cls : Str
  cattrs : List (Str × List Nat)

def methBase : Nat := 100
abbrev Nm := List (Str × NameKind)
def nmIdx : Nm → Str → Option (Nat × NameKind)
  | [], _ => none
  | (y, k) :: r, x => if x == y then some (0, k) else (nmIdx r x).map fun (i, k) => (i + 1, k)
def strIdx : List Str → Str → Option Nat
  | [], _ => none
  | y :: r, x => if x == y then some 0 else (strIdx r x).map (· + 1)
def plainVar (x : Str) : Bool := !(x == ("__debug__" : Str)) && !(x == ("__classdict__" : Str))
def compVar (nm : Nm) (x : Str) : Option Nat := match nmIdx nm x with
  | some (i, .local) => if plainVar x then some i else none
  | some (i, .cell) => if plainVar x then some i else none
  | some (i, .free) => if plainVar x then some i else none
  | _ => none
/-- a name that is bound here: a local one, or a cell of this very block -/
def compTgt (nm : Nm) (x : Str) : Option Nat := match nmIdx nm x with
  | some (i, .local) => some i
  | some (i, .cell) => some i
  | _ => none
def isGlob (nm : Nm) (x : Str) : Bool := match nmIdx nm x with
  | some (_, .globalImplicit) => !(x == ("__debug__" : Str))
  | _ => false
def biOf (x : Str) : Option Bi :=
  if x == ("len" : Str) then some .len else if x == ("max" : Str) then some .max else if x == ("min" : Str) then some .min else if x == ("abs" : Str) then some .abs
  else if x == ("round" : Str) then some .round else if x == ("sum" : Str) then some .sum else if x == ("sorted" : Str) then some .sorted else if x == ("list" : Str) then some .list
  else if x == ("tuple" : Str) then some .tuple else if x == ("divmod" : Str) then some .divmod else if x == ("range" : Str) then some .range else if x == ("enumerate" : Str) then some .enumerate
  else if x == ("zip" : Str) then some .zip else none
def biName : Bi → Str
  | .len => "len" | .max => "max" | .min => "min" | .abs => "abs" | .round => "round" | .sum => "sum" | .sorted => "sorted" | .list => "list" | .tuple => "tuple" | .divmod => "divmod"
  | .range => "range" | .enumerate => "enumerate" | .zip => "zip"
def compConst : Const → Option D
  | .none => some .none
  | .bool b => some (.bool b)
  | .int i => some (.int i)
  | .float x => some (.flt x)
  | .str s => some (.str s.cps.toList)
  | _ => none
def attrIdx (x : Str) : Option Nat :=
  if x == attrName 0 then some 0 else if x == attrName 1 then some 1 else if x == attrName 2 then some 2 else if x == attrName 3 then some 3 else if x == attrName 4 then some 4 else none
/-- not the form of super() -/
def plainBase : Expr → Bool
  | .Call (.Name _ _) [] [] _ => false
  | _ => true
def compT (nm : Nm) : Expr → Option T
  | .Name x _ => (compTgt nm x).map .var
  | .Tuple es _ _ => (es.mapM fun (e : Expr) => match e with | .Name x _ => compTgt nm x | _ => none).map .tup
  | _ => none
/-- an iterator that hands out its own tuple: at once unpacked -/
def itOk (it : E) (t : T) : Bool := match it, t with
  | .bi .enumerate _, .tup _ => true
  | .bi .enumerate _, _ => false
  | .bi .zip _, .tup _ => true
  | .bi .zip _, _ => false
  | _, _ => true
/-- the names of a comprehension -/
def scopeOk (sc : Scope) : Bool := sc.kind == .function && decide ((sc.names.map (·.1)).Nodup) && sc.names.all (fun x => x.2 != .globalExplicit)
/-- no tuple of constant expressions -/
def asgOk : Expr → Bool
  | .Tuple vs _ _ => vs.all (foldedForSure 8) || !(vs.all (constantsAlone 8))
  | _ => true
def iniOf (nm inner : Nm) : Option (List (Option Nat)) := inner.mapM fun (x, k) => match k with
  | .free => (match nmIdx nm x with
    | some (i, .cell) => some (some i)
    | some (i, .free) => some (some i)
    | _ => none)
  | _ => some none

mutual
def compE (C : Cc) : Nat → Nm → Expr → Option E
  | 0, _, _ => none
  | n + 1, nm, e => match e with
    | .Constant c _ _ => (compConst c).map .lit
    | .Name x _ => (compVar nm x).map .var
    | .BoolOp .And [a, b] _ => (compE C n nm a).bind fun a => (compE C n nm b).map fun b => .both a b
    | .BoolOp .Or [a, b] _ => (compE C n nm a).bind fun a => (compE C n nm b).map fun b => .either a b
    | .BinOp (.List [a] _) .Mult b _ => (compE C n nm a).bind fun a => (compE C n nm b).map fun b => .rep a b
    | .BinOp a op b _ => (compE C n nm a).bind fun a => (compE C n nm b).map fun b => .bin op a b
    | .UnaryOp .Not a _ => (compE C n nm a).map .not
    | .UnaryOp .USub a _ => (compE C n nm a).map .neg
    | .IfExp c a b _ => (compE C n nm c).bind fun c => (compE C n nm a).bind fun a => (compE C n nm b).map fun b => .ite c a b
    | .Compare a [op] [b] _ => (compE C n nm a).bind fun a => (compE C n nm b).map fun b => .cmp op a b
    | .Tuple es _ _ => (compEs C n nm es).map .tup
    | .List es _ => (compEs C n nm es).map .lst
    | .Subscript a (.Slice l u s _) _ => (compE C n nm a).bind fun a => (compO C n nm l).bind fun l => (compO C n nm u).bind fun u => (compO C n nm s).map fun s => .sli a l u s
    | .Subscript a i _ => (compE C n nm a).bind fun a => (compE C n nm i).map fun i => .idx a i
    | .Attribute (.Name x p) y _ => if isGlob nm x then (if x == C.cls then (C.cattrs.lookup y).map fun s => .lit (.str s) else none) else (compE C n nm (.Name x p)).bind fun a => (attrIdx y).map fun k => .attr a k
    | .Attribute a y _ => if !plainBase a then none else (compE C n nm a).bind fun a => (attrIdx y).map fun k => .attr a k
    | .Call (.Attribute o m ap) args [] cp => if !plainBase o || !(ap.endLine == cp.line) || !(args.length < 29) then none else (compE C n nm o).bind fun o => (compEs C n nm args).bind fun args =>
      if m == ("append" : Str) then (match args with | [a] => some (.append o a) | _ => none)
      else if m == ("pop" : Str) then (match args with | [] => some (.pop o) | _ => none)
      else if m == ("join" : Str) then (match args with | [a] => some (.join o a) | _ => none)
      else if m == ("split" : Str) then (match args with | [a] => some (.split o a) | _ => none)
      else (strIdx C.meths m).map fun f => .meth (methBase + f) o args
    | .Call (.Name x _) [a] [⟨some y, .Lambda ⟨[], [p], none, [], [], none, []⟩ body scope _, _⟩] _ =>
      if isGlob nm x && x == ("sorted" : Str) && y == ("key" : Str) && (match scope.names with | (q, k) :: _ => q == p.arg && k == .local | [] => false) then
        (compE C n nm a).bind fun a => (iniOf nm scope.names).bind fun ini => (compE C n scope.names body).map fun b => .sortKey a ini b
      else none
    | .Call (.Name x _) args [] _ => if isGlob nm x && args.length < 29 then (compEs C n nm args).bind fun args =>
        if x == C.cls then (match args with | [a] => some (.new a) | _ => none) else
        match strIdx C.fns x with
        | some f => some (.call f args)
        | none => match strIdx C.muts x with
          | some f => (match args with | o :: r => some (.mcall f o r) | [] => none)
          | none => (biOf x).map fun b => .bi b args
      else none
    | .ListComp elt [⟨t, it, ifs, 0⟩] scope _ => (compE C n nm it).bind fun it => (iniOf nm scope.names).bind fun ini => (compT scope.names t).bind fun t => (compEs C n scope.names ifs).bind fun ifs => (compE C n scope.names elt).bind fun elt => if itOk it t && scopeOk scope then some (.comp ini elt t it ifs) else none
    | _ => none
def compEs (C : Cc) : Nat → Nm → List Expr → Option (List E)
  | 0, _, _ => none
  | _ + 1, _, [] => some []
  | n + 1, nm, e :: es => (compE C n nm e).bind fun a => (compEs C n nm es).map (a :: ·)
def compO (C : Cc) : Nat → Nm → Option Expr → Option (Option E)
  | 0, _, _ => none
  | _ + 1, _, none => some none
  | n + 1, nm, some e => (compE C n nm e).map some
end

mutual
def compS (C : Cc) : Nat → Nm → Stmt → Option S
  | 0, _, _ => none
  | n + 1, nm, s => match s with
    | .Assign [.Attribute o y _] v _ => (compE C n nm v).bind fun v => (compE C n nm o).bind fun o => (attrIdx y).map fun k => .setAttr o k v
    | .Assign [.Subscript o i _] v _ => match i with
      | .Slice _ _ _ _ => none
      | i => (compE C n nm v).bind fun v => (compE C n nm o).bind fun o => (compE C n nm i).map fun i => .setIdx o i v
    | .Assign ts v _ => if asgOk v then (compE C n nm v).bind fun v => (ts.mapM (compT nm)).map fun ts => .asg ts v else none
    | .Expr v _ => (match v with
      | .Call f as ks p => (compE C n nm (.Call f as ks p)).map .expr
      | _ => none)
    | .Return (some v) _ => (compE C n nm v).map .ret
    | .If c a b _ => (compE C n nm c).bind fun c => (compSs C n nm a).bind fun a => (compSs C n nm b).map fun b => .ite c a b
    | .While c b [] _ => (compE C n nm c).bind fun c => (compSs C n nm b).map fun b => .wh c b
    | .For t it b [] _ => (compE C n nm it).bind fun it => (compT nm t).bind fun t => (compSs C n nm b).bind fun b => if itOk it t then some (.for t it b) else none
    | .Break _ => some .brk
    | .Continue _ => some .cont
    | _ => none
def compSs (C : Cc) : Nat → Nm → List Stmt → Option (List S)
  | 0, _, _ => none
  | _ + 1, _, [] => some []
  | n + 1, nm, s :: ss => (compS C n nm s).bind fun a => (compSs C n nm ss).map (a :: ·)
end

/-- a def's data, all that a call asks of it, and its body in my syntax -/
def fnOk (C : Cc) (fd : FuncData) : Option Fn :=
  match fd with
  | { name := _, qualname := _, params := ⟨[], as, none, [], [], none, []⟩, body := .stmts body, scope := sc, globals := g, closure := [], defaults := .none, kwdefaults := .none, doc := _, pyModule := _, annotations := _, code := _, closureTuple := _, builtins := b } =>
    if g == mainGlobals && b == builtinsNs && !sc.isGenerator && !sc.isCoroutine && sc.kind == .function && decide ((sc.names.map (·.1)).Nodup) && (sc.names.map (·.1)).take as.length == as.map (·.arg) &&
      (sc.names.take as.length).all (fun x => x.2 == .local || x.2 == .cell) && sc.names.all (fun x => x.2 != .free && x.2 != .globalExplicit) then
      (compSs C 200 sc.names body).map fun b => ⟨sc.names.length, as.length, b⟩
    else none
  | _ => none
def fnAt (C : Cc) (K : W.Frag) (v : Value) : Option Fn := match v with
  | .ref a => (match K.lookup a with
    | some ⟨_, _, .func fd, _⟩ => fnOk C fd
    | _ => none)
  | _ => none
end Ev
end
section
set_option maxRecDepth 100000
set_option autoImplicit false
namespace Ev
open PySem PySem.W PySem.Calls PyProof.Rows

/-- room for n more levels -/
structure Good (n : Nat) (A : Around) : Prop where
  hh : A.handled = none
  depth : A.depth + n < recursionLimit
  units : A.units + 10 * n + 100 < cLine
theorem Good.le {n m : Nat} {A : Around} (g : Good n A) (h : m ≤ n) : Good m A := ⟨g.hh, by have := g.depth; omega, by have := g.units; omega⟩
theorem Good.in1 {n : Nat} {A : Around} (g : Good (n + 1) A) : Good n A.in1 := ⟨g.hh, by have := g.depth; show A.depth + n < _; omega, by have := g.units; show A.units + 1 + _ + _ < _; omega⟩
theorem Good.deeper {n : Nat} {A : Around} {env : Env} (g : Good (n + 1) A) : Good n (A.deeper env) := ⟨g.hh, by have := g.depth; show A.depth + 1 + n < _; omega, by have := g.units; show A.units + 3 + _ + _ < _; omega⟩
theorem Good.room {n : Nat} {A : Around} (g : Good n A) : A.depth < recursionLimit := by have := g.depth; omega
theorem Good.space {n : Nat} {A : Around} (g : Good n A) : A.units < cLine := by have := g.units; omega

structure Kp (s s' : Shared) : Prop where
  heap : ∀ b o, s.heap.get? b = some o → s'.heap.get? b = some o
  gens : s'.gens = s.gens
  os : s'.os = s.os
  toks : s.toks ≤ s'.toks
theorem Kp.rfl {s : Shared} : Kp s s := ⟨fun _ _ e => e, Eq.refl _, Eq.refl _, Nat.le_refl _⟩
theorem Kp.tok {s : Shared} : Kp s { s with toks := s.toks + 1 } := ⟨fun _ _ e => e, Eq.refl _, Eq.refl _, Nat.le_succ _⟩
theorem Kp.toks' {s : Shared} {t : Nat} (h : s.toks ≤ t) : Kp s { s with toks := t } := ⟨fun _ _ e => e, Eq.refl _, Eq.refl _, h⟩
theorem Kp.push {s : Shared} {o : Obj} : Kp s { s with heap := s.heap.push o } := ⟨fun _ _ e => Heap.get?_push_of_some _ e, Eq.refl _, Eq.refl _, Nat.le_refl _⟩
theorem Kp.trans {s s' s'' : Shared} (a : Kp s s') (b : Kp s' s'') : Kp s s'' := ⟨fun x o e => b.heap x o (a.heap x o e), b.gens.trans a.gens, b.os.trans a.os, Nat.le_trans a.toks b.toks⟩
theorem Kp.mk' {s : Shared} {h' : Heap} {tk : Nat} (h : ∀ b o, s.heap.get? b = some o → h'.get? b = some o) (ht : s.toks ≤ tk) : Kp s { s with heap := h', toks := tk } := ⟨h, Eq.refl _, Eq.refl _, ht⟩

/-- the whole state of a frame at work -/
structure W (c : Cx) (nm : Nm) (X : PMap) (env : Env) (fa : List (Option Addr)) (F : FM) (ρ : List (List Addr)) (vars : Vars) (σ : Sto) (s : Shared) : Prop where
  g : G c F X fa ρ σ s
  f : FrR c nm F X ρ env fa vars s.heap

section
variable {c : Cx} {nm : Nm} {F F' : FM} {X : PMap} {fa : List (Option Addr)} {ρ ρ' : List (List Addr)} {σ σ' : Sto} {s s' : Shared} {env : Env} {vars : Vars}

theorem W.keep (w : W c nm X env fa F ρ vars σ s) (k : Kp s s') : W c nm X env fa F ρ vars σ s' :=
  ⟨w.g.keeps k.heap k.gens k.os k.toks, w.f.to PLe.rfl (List.prefix_refl _) fun _ a o _ e => k.heap a o e⟩

theorem W.intoG (w : W c nm X env fa F ρ vars σ s) (g : G c F' X fa ρ' σ' s) (hF : PLe F F') (hρ : ρ <+: ρ') : W c nm X env fa F' ρ' vars σ' s :=
  ⟨g, w.f.to hF hρ fun _ _ _ _ e => e⟩

/-- what a value reads as, here and now -/
inductive Rd (c : Cx) (F : FM) (ρ : List (List Addr)) (h : Heap) : Value → D → Prop
  | old {v : Value} {d : D} (r : Rv c.C F ρ v d) : Rd c F ρ h v d
  | live {a : Addr} {vs : List Value} {xs : List D} (hl : h.IsList a vs.toArray) (hs : Rvs c.C F ρ vs xs) : Rd c F ρ h (.ref a) (.lst xs)

theorem res_loc {l : Nat} {x : D} (e : Ev.res σ (.loc l) = some x) : ∃ xs, σ[l]? = some (some (.lst xs)) ∧ x = .lst xs := by
  unfold Ev.res at e
  cases hl : σ[l]? with
  | none => simp [hl] at e
  | some m => cases m with
    | none => simp [hl] at e
    | some m => cases m with
      | inst as => simp [hl] at e
      | lst xs => simp [hl] at e; exact ⟨xs, rfl, e.symm⟩
theorem G.rd (g : G c F X fa ρ σ s) {v : Value} {d x : D} (r : Rv c.C F ρ v d) (e : Ev.res σ d = some x) : Rd c F ρ s.heap v x := by
  cases d with
  | loc l =>
    obtain ⟨xs, hl, rfl⟩ := res_loc e
    obtain ⟨q, h1, h2⟩ := g.objs l _ hl
    cases h2 with
    | lst ho hs =>
      cases r with
      | loc hr =>
        obtain ⟨r', hr⟩ := hr
        rw [h1] at hr; cases hr
        exact .live ⟨_, ho, rfl, _, rfl⟩ hs
  | _ => simp only [Ev.res, Option.some.injEq] at e; subst e; exact .old r

theorem G.list (g : G c F X fa ρ σ s) {v : Value} {xs : List D} (r : Rd c F ρ s.heap v (.lst xs)) : ∃ a vs, v = .ref a ∧ s.heap.IsList a vs.toArray ∧ Rvs c.C F ρ vs xs := by
  cases r with
  | old r => cases r with
    | lst ho hc hd hs => exact ⟨_, _, rfl, ⟨_, g.f _ _ ho, hc, _, hd⟩, hs⟩
  | live hl hs => exact ⟨_, _, rfl, hl, hs⟩
theorem G.tuple (g : G c F X fa ρ σ s) {v : Value} {xs : List D} (r : Rd c F ρ s.heap v (.tup xs)) : ∃ a vs, v = .ref a ∧ s.heap.IsTuple a vs.toArray ∧ Rvs c.C F ρ vs xs := by
  cases r with
  | old r => cases r with
    | tup ho hc hd hs => exact ⟨_, _, rfl, ⟨_, g.f _ _ ho, hc, _, hd⟩, hs⟩

/-- what an operation hands back -/
inductive Res (c : Cx) (F : FM) (ρ : List (List Addr)) (s s' : Shared) : Value → D → Prop
  | old {v : Value} {d : D} (r : Rv c.C F ρ v d) : Res c F ρ s s' v d
  | flt {x : UInt64} {t : Tok} (h0 : 0 < s.toks) (h1 : s.toks ≤ t) (h2 : t < s'.toks) : Res c F ρ s s' (.float x t) (.flt x)
  | tup {a : Addr} {o : Obj} {vs : List Value} {n : Nat} {xs : List D} (h0 : s.heap.get? a = none) (ho : s'.heap.get? a = some o) (hc : o.cls = .type "tuple") (hd : o.data = .seq vs.toArray n) (hs : Rvs c.C F ρ vs xs) : Res c F ρ s s' (.ref a) (.tup xs)
  | lst {a : Addr} {o : Obj} {vs : List Value} {n : Nat} {xs : List D} (h0 : s.heap.get? a = none) (ho : s'.heap.get? a = some o) (hc : o.cls = .type "list") (hd : o.data = .seq vs.toArray n) (hs : Rvs c.C F ρ vs xs) : Res c F ρ s s' (.ref a) (.lst xs)

theorem W.res (w : W c nm X env fa F ρ vars σ s) (k : Kp s s') {v : Value} {d : D} (r : Res c F ρ s s' v d) :
    ∃ F', PLe F F' ∧ W c nm X env fa F' ρ vars σ s' ∧ Rv c.C F' ρ v d := by
  have w' := w.keep k
  cases r with
  | old r => exact ⟨F, PLe.rfl, w', r⟩
  | @flt x t hp h1 h2 =>
    have h0 : F.t t = none := by
      cases e : F.t t with
      | none => rfl
      | some y => exact absurd (Nat.lt_of_le_of_lt h1 (w.g.ft t y e).2) (Nat.lt_irrefl _)
    have le : PLe F { F with t := fun u => if u = t then some x else F.t u } := ⟨fun _ _ e => e, fun u y e => by
      dsimp only; split
      · rename_i q; rw [q, h0] at e; cases e
      · exact e⟩
    refine ⟨_, le, w'.intoG { f := w'.g.f, x := w'.g.x, fx := w'.g.fx, base := w'.g.base, apart := w'.g.apart, own := w'.g.own, objs := fun l m e => ?_, len := w'.g.len, gens := w'.g.gens, os := w'.g.os, tpos := w'.g.tpos, ft := fun u y e => ?_ } le (List.prefix_refl _), .flt (by simp)⟩
    · obtain ⟨r, q1, q2⟩ := w'.g.objs l m e
      exact ⟨r, q1, q2.mono le (List.prefix_refl _) fun _ _ _ h => h⟩
    · dsimp only at e; split at e
      · rename_i q; subst q
        exact ⟨Nat.lt_of_lt_of_le hp h1, h2⟩
      · exact w'.g.ft u y e
  | @tup a o vs n xs h0 ho hc hd hs =>
    obtain ⟨h1, h2, h3⟩ := w.g.fresh h0
    have le := upd_le (o := o) h1
    exact ⟨_, le, w'.intoG (w'.g.freezeAt ho h1 h2 h3) le (List.prefix_refl _), .tup upd_self hc hd (hs.mono le (List.prefix_refl _))⟩
  | @lst a o vs n xs h0 ho hc hd hs =>
    obtain ⟨h1, h2, h3⟩ := w.g.fresh h0
    have le := upd_le (o := o) h1
    exact ⟨_, le, w'.intoG (w'.g.freezeAt ho h1 h2 h3) le (List.prefix_refl _), .lst upd_self hc hd (hs.mono le (List.prefix_refl _))⟩

theorem wpAny_release {M : Model} {A : Around} {E : Value → Shared → Prop} {vs keep : List Value} {Q : Unit → Shared → Prop} (h : Q () s) : wpAny M A (release vs keep) Q E s := by
  unfold release
  have : ∀ (l : List Value), wpAny M A (release.go keep l) Q E s := by
    intro l
    induction l with
    | nil => unfold release.go; exact wpAny_pure h
    | cons x r ih =>
      cases r with
      | nil => unfold release.go; exact wpAny_pure h
      | cons y r => unfold release.go; exact wpAny_bind (wpAny_holding (wpAny_point ih))
  exact this _
theorem wpAny_operate {M : Model} {A : Around} {E : Value → Shared → Prop} {vs : List Value} {m : Sem Value} {Q : Value → Shared → Prop} (h : wpAny M A m Q E s) : wpAny M A (operate vs m) Q E s := by
  unfold operate
  exact wpAny_bind (wpAny_holding (wpAny_mono h (fun v s' h' => wpAny_bind (wpAny_release (wpAny_pure h'))) fun _ _ e => e))

variable {A : Around} {E : Value → Shared → Prop} {prog : Program} {w : World}
theorem small_bits {i : Int} (h : small i = true) : Builtin.Int.intBits i ≤ 64 := by
  unfold small at h
  have := of_decide_eq_true h
  exact intBits_le_64 (by omega) (by omega)
theorem size_of_maxLen {n : Nat} (h : n ≤ maxLen) : n ≤ sizeLine := by
  rw [sizeLine_eq]; unfold maxLen at h; omega

theorem str_append (a b : List Nat) : (⟨a.toArray⟩ : Str) ++ (⟨b.toArray⟩ : Str) = ⟨(a ++ b).toArray⟩ := by
  show Str.mk _ = _
  simp
theorem str_length (a : List Nat) : (⟨a.toArray⟩ : Str).length = a.length := by
  show (a.toArray).size = _
  simp
end
end Ev
end
section
set_option maxRecDepth 100000
set_option autoImplicit false
namespace Ev
open PySem PySem.W PySem.Calls PyProof.Rows

section
variable {c : Cx} {nm : Nm} {F F' : FM} {X : PMap} {fa : List (Option Addr)} {ρ ρ' : List (List Addr)} {σ σ' : Sto} {s s' : Shared} {env : Env} {vars : Vars}
variable {A : Around} {E : Value → Shared → Prop} {prog : Program} {w : World} {Q : Value → Shared → Prop}

theorem Rd.int {v : Value} {i : Int} (r : Rd c F ρ s.heap v (.int i)) : ∃ t, v = .int i t := by
  cases r with | old r => cases r with | int i t => exact ⟨t, rfl⟩
theorem Rd.flt {v : Value} {x : UInt64} (r : Rd c F ρ s.heap v (.flt x)) : ∃ t, v = .float x t := by
  cases r with | old r => cases r with | flt ht => exact ⟨_, rfl⟩
theorem Rd.str {v : Value} {x : List Nat} (r : Rd c F ρ s.heap v (.str x)) : ∃ t, v = .str ⟨x.toArray⟩ t := by
  cases r with | old r => cases r with | str i t => exact ⟨t, rfl⟩
theorem Rd.bool {v : Value} {b : Bool} (r : Rd c F ρ s.heap v (.bool b)) : v = .bool b := by
  cases r with | old r => cases r with | bool b => rfl
theorem Rd.none {v : Value} (r : Rd c F ρ s.heap v .none) : v = .none := by
  cases r with | old r => cases r with | none => rfl

theorem foldl_flat (n : Nat) (x : List Nat) (acc : Array Nat) : (List.replicate n x.toArray).foldl (· ++ ·) acc = (acc.toList ++ (List.replicate n x).flatten).toArray := by
  induction n generalizing acc with
  | zero => simp
  | succ n ih => rw [List.replicate_succ, List.foldl_cons, ih, List.replicate_succ, List.flatten_cons]; simp

theorem txt_mul (x : List Nat) (n : Int) : Txt.mul ⟨x.toArray⟩ n = ⟨((List.replicate n.toNat x).flatten).toArray⟩ := by
  unfold Txt.mul
  by_cases h : n < 1
  · rw [if_pos h, show n.toNat = 0 by omega]; rfl
  · rw [if_neg h]
    by_cases h1 : (n == 1 || (⟨x.toArray⟩ : Str).length == 0) = true
    · rw [if_pos h1]
      rcases Bool.or_eq_true_iff.mp h1 with q | q
      · have : n = 1 := by simpa using q
        subst this; simp
      · have : x = [] := by have := beq_iff_eq.mp q; rw [str_length] at this; exact List.length_eq_zero_iff.mp this
        subst this; simp
    · rw [if_neg h1]
      have : ∀ (acc : Array Nat), (List.replicate n.toNat x.toArray).foldl (· ++ ·) acc = (acc.toList ++ (List.replicate n.toNat x).flatten).toArray := foldl_flat _ _
      simp only [this]; simp

theorem noPy_small {a b : Int} (h : small b = true) : Builtin.divisionGoesByPylong a b = false := by
  have h' : b.natAbs < 2 ^ 62 := of_decide_eq_true h
  unfold Builtin.divisionGoesByPylong
  by_cases hb : b = 0
  · subst hb; simp
  · have hl : b.natAbs.log2 < 62 := (Nat.log2_lt (by omega)).mpr h'
    have : ¬ (b == 0) = true := by simpa using hb
    simp only [this, if_false]
    rw [Bool.and_eq_false_iff]; left
    apply decide_eq_false
    simp; omega
theorem binOk {op : Operator} {v1 v2 : Value} {x y z : D} (gd : Good 0 A) (r1 : Rd c F ρ s.heap v1 x) (r2 : Rd c F ρ s.heap v2 y) (e : binD op x y = some z) (hp : isFlt z = true → 0 < s.toks)
    (h : ∀ v s', Kp s s' → Res c F ρ s s' v z → Q v s') : wpAny (model prog w) A (binaryOp op v1 v2) Q E s := by
  refine wpAny_with_toks (Nat.le_refl _) ?_
  unfold binD at e
  split at e
  · obtain ⟨t, rfl⟩ := r1.int; obtain ⟨u, rfl⟩ := r2.int
    cases e; exact add_int (fun ht => h _ _ (.toks' ht) (.old (.int _ _)))
  · obtain ⟨t, rfl⟩ := r1.int; obtain ⟨u, rfl⟩ := r2.int
    cases e; exact sub_int (fun ht => h _ _ (.toks' ht) (.old (.int _ _)))
  · obtain ⟨t, rfl⟩ := r1.int; obtain ⟨u, rfl⟩ := r2.int
    split at e
    · rename_i hs; cases e
      refine mul_int (fun ht => h _ _ (.toks' ht) (.old (.int _ _))) ?_
      rcases Bool.or_eq_true_iff.mp hs with q | q
      · exact IntMulOk.of_left (small_bits q)
      · exact IntMulOk.of_right (small_bits q)
    · cases e
  · obtain ⟨t, rfl⟩ := r1.int; obtain ⟨u, rfl⟩ := r2.int
    split at e
    · cases e
    · rename_i hs; cases e
      simp only [Bool.or_eq_true, not_or, beq_iff_eq, Bool.not_eq_true', Bool.not_eq_false] at hs
      exact floordiv_int hs.1 (fun ht => h _ _ (.toks' ht) (.old (.int _ _))) (.inl (noPy_small hs.2))
  · obtain ⟨t, rfl⟩ := r1.int; obtain ⟨u, rfl⟩ := r2.int
    split at e
    · cases e
    · rename_i hs; cases e
      exact mod_int' (by simpa using hs) (fun ht => h _ _ (.toks' ht) (.old (.int _ _)))
  · obtain ⟨t, rfl⟩ := r1.int; obtain ⟨u, rfl⟩ := r2.int
    split at e
    · rename_i hs; cases e
      exact rshift_int hs.1 (fun ht => h _ _ (.toks' ht) (.old (.int _ _)))
    · cases e
  · obtain ⟨t, rfl⟩ := r1.int; obtain ⟨u, rfl⟩ := r2.int
    split at e
    · rename_i hs; cases e
      have hs' := Bool.and_eq_true_iff.mp hs
      have hb := of_decide_eq_true hs'.2
      refine pow_int hb.1 ?_ (fun ht => h _ _ (.toks' ht) (.old (.int _ _)))
      have h1 := small_bits hs'.1
      have h2 := hb.2
      rename_i a b
      have : (Builtin.Int.intBits a : Int) * b ≤ 64 * 64 := by
        have h3 : (Builtin.Int.intBits a : Int) ≤ 64 := by exact_mod_cast h1
        have h4 : (0 : Int) ≤ Builtin.Int.intBits a := Int.natCast_nonneg _
        exact Int.mul_le_mul h3 h2 hb.1 (by omega)
      omega
    · cases e
  · obtain ⟨t, rfl⟩ := r1.int; obtain ⟨u, rfl⟩ := r2.int
    split at e
    · cases e
    · rename_i hs; cases e
      simp only [Bool.or_eq_true, not_or] at hs
      exact AutoIntOps.truediv_2 hs.1 hs.2 (fun ht => h _ _ (.toks' ht) (.flt (hp rfl) (Nat.le_refl _) (Nat.lt_succ_self _)))
  · obtain ⟨t, rfl⟩ := r1.flt; obtain ⟨u, rfl⟩ := r2.flt
    cases e; exact add_float (fun ht => h _ _ (.toks' ht) (.flt (hp rfl) (Nat.le_refl _) (Nat.lt_succ_self _)))
  · obtain ⟨t, rfl⟩ := r1.flt; obtain ⟨u, rfl⟩ := r2.flt
    cases e; exact sub_float (fun ht => h _ _ (.toks' ht) (.flt (hp rfl) (Nat.le_refl _) (Nat.lt_succ_self _)))
  · obtain ⟨t, rfl⟩ := r1.flt; obtain ⟨u, rfl⟩ := r2.flt
    cases e; exact mul_float (fun ht => h _ _ (.toks' ht) (.flt (hp rfl) (Nat.le_refl _) (Nat.lt_succ_self _)))
  · obtain ⟨t, rfl⟩ := r1.flt; obtain ⟨u, rfl⟩ := r2.flt
    split at e
    · cases e
    · rename_i hs; cases e
      exact AutoFloatOps.truediv_1 hs (fun ht => h _ _ (.toks' ht) (.flt (hp rfl) (Nat.le_refl _) (Nat.lt_succ_self _)))
  · obtain ⟨t, rfl⟩ := r1.flt; obtain ⟨u, rfl⟩ := r2.flt
    split at e
    · cases e
    · rename_i hs; cases e
      exact AutoFloatOps.mod_1 hs (fun ht => h _ _ (.toks' ht) (.flt (hp rfl) (Nat.le_refl _) (Nat.lt_succ_self _)))
  · obtain ⟨t, rfl⟩ := r1.int; obtain ⟨u, rfl⟩ := r2.flt
    split at e
    · cases e
    · rename_i hs; cases e
      simp only [bitsOk, Bool.not_not, Bool.or_eq_true, not_or] at hs
      exact AutoFloatOps.truediv_if_2 hs.1 hs.2 (fun ht => h _ _ (.toks' ht) (.flt (hp rfl) (Nat.le_refl _) (Nat.lt_succ_self _)))
  · obtain ⟨t, rfl⟩ := r1.int; obtain ⟨u, rfl⟩ := r2.flt
    split at e
    · cases e
    · rename_i hs; cases e
      simp only [bitsOk, Bool.not_not] at hs
      exact AutoFloatOps.mul_if_1 hs (fun ht => h _ _ (.toks' ht) (.flt (hp rfl) (Nat.le_refl _) (Nat.lt_succ_self _)))
  · obtain ⟨t, rfl⟩ := r1.str; obtain ⟨u, rfl⟩ := r2.str
    split at e
    · rename_i hs; cases e
      refine SB.add (fun t' k => ?_) (by rw [str_length, str_length]; exact size_of_maxLen hs)
      rw [str_append]
      exact fun ht => h _ _ (.toks' ht) (.old (.str _ _))
    · cases e
  · obtain ⟨t, rfl⟩ := r1.str; obtain ⟨u, rfl⟩ := r2.int
    split at e
    · rename_i hs; cases e
      rename_i a n
      have hs' := Bool.and_eq_true_iff.mp hs
      have hl := of_decide_eq_true hs'.2
      have hn : n.natAbs < 2 ^ 62 := of_decide_eq_true hs'.1
      refine SB.mul ⟨?_, fun h1 h2 => ?_, fun h1 h2 => ?_⟩ fun t' k => ?_
      · rw [Bool.or_eq_false_iff]; exact ⟨decide_eq_false (by omega), decide_eq_false (by omega)⟩
      · rw [str_length]
        have hp : 0 < n := by omega
        intro hgt
        have h3 : (a.length : Int) * n ≤ 2 ^ 20 := by
          have : ((a.length * n.toNat : Nat) : Int) ≤ 2 ^ 20 := by unfold maxLen at hl; exact_mod_cast hl
          rwa [Int.natCast_mul, Int.toNat_of_nonneg (by omega)] at this
        have h4 : (2 ^ 63 - 1 : Int) / n < a.length := hgt
        have h5 := Int.lt_mul_of_ediv_lt hp h4
        omega
      · rw [str_length]
        unfold Builtin.Str.tooLong
        unfold maxLen at hl
        first
          | exact decide_eq_false (by rw [sizeLine_eq]; omega)
          | (simp [sizeLine]; omega)
      · rw [txt_mul]; exact fun ht => h _ _ (.toks' ht) (.old (.str _ _))
    · cases e
  · cases e
end
end Ev
end
section
set_option maxRecDepth 100000
set_option autoImplicit false
set_option linter.all false
namespace Ev
open PySem PySem.W PySem.Calls PyProof.Rows PySem.SeqAt

theorem cmp_self {a : UInt64} (h : Float64.isNaN a = false) : Float64.cmp a a = some Ordering.eq := by
  unfold Float64.isNaN at h
  unfold Float64.cmp
  cases hd : Float64.decode a with
  | nan => rw [hd] at h; cases h
  | inf n => simp
  | fin n m e => simp [Float64.align]

section
variable {c : Cx} {nm : Nm} {F F' : FM} {X : PMap} {fa : List (Option Addr)} {ρ ρ' : List (List Addr)} {σ σ' : Sto} {s s' : Shared} {env : Env} {vars : Vars}
variable {A : Around} {E : Value → Shared → Prop} {prog : Program} {w : World} {Q : Value → Shared → Prop}

mutual
theorem eqD_same : ∀ {x y : D} {v : Value} {b : Bool}, Rv c.C F ρ v x → Rv c.C F ρ v y → eqD x y = some b → b = true
  | .none, y, v, b, r1, r2, e => by cases r1; cases r2; simp [eqD] at e; exact e
  | .bool i, y, v, b, r1, r2, e => by cases r1; cases r2; simp [eqD] at e; exact e
  | .int i, y, v, b, r1, r2, e => by cases r1; cases r2; simp [eqD] at e; exact e
  | .flt x, y, v, b, r1, r2, e => by
    cases r1; cases r2
    simp only [eqD] at e
    split at e
    · cases e
    · rename_i hn
      simp only [Bool.or_eq_true, or_self, Bool.not_eq_true] at hn
      rw [cmp_self hn] at e
      simp at e; exact e
  | .str x, y, v, b, r1, r2, e => by cases r1; cases r2; simp [eqD] at e; exact e
  | .tup xs, y, v, b, r1, r2, e => by
    cases r1 with
    | tup h1 c1 d1 s1 =>
      cases r2 with
      | tup h2 c2 d2 s2 =>
        rw [h1] at h2; cases h2
        rw [d1] at d2; cases d2
        simp only [eqD] at e
        exact eqDs_same s1 s2 e
      | lst h2 c2 d2 s2 => simp [eqD] at e
      | inst h2 d2 s2 => simp [eqD] at e
      | loc hl => simp [eqD] at e
  | .lst xs, y, v, b, r1, r2, e => by
    cases r1 with
    | lst h1 c1 d1 s1 =>
      cases r2 with
      | lst h2 c2 d2 s2 =>
        rw [h1] at h2; cases h2
        rw [d1] at d2; cases d2
        simp only [eqD] at e
        have hl : xs.length = _ := (s1.length).symm.trans s2.length
        rw [if_pos (by simpa using hl)] at e
        exact eqDs_same s1 s2 e
      | tup h2 c2 d2 s2 => simp [eqD] at e
      | inst h2 d2 s2 => simp [eqD] at e
      | loc hl => simp [eqD] at e
  | .inst as, y, v, b, r1, r2, e => by cases y <;> simp [eqD] at e
  | .loc l, y, v, b, r1, r2, e => by cases y <;> simp [eqD] at e
theorem eqDs_same : ∀ {xs ys : List D} {vs : List Value} {b : Bool}, Rvs c.C F ρ vs xs → Rvs c.C F ρ vs ys → eqDs xs ys = some b → b = true
  | [], _, _, b, r1, r2, e => by cases r1; cases r2; simp [eqDs] at e; exact e
  | x :: xs, _, _, b, r1, r2, e => by
    cases r1 with
    | cons h1 s1 =>
      cases r2 with
      | @cons v y vs ys h2 s2 =>
        simp only [eqDs] at e
        cases e1 : eqD x y with
        | none => rw [e1] at e; cases e
        | some p =>
          cases e2 : eqDs xs ys with
          | none => rw [e1, e2] at e; cases e
          | some q =>
            rw [e1, e2] at e; cases e
            rw [eqD_same h1 h2 e1, eqDs_same s1 s2 e2]; rfl
end

def pairB (xs ys : List D) (j : Nat) : Bool := (eqD (xs.getD j .none) (ys.getD j .none)).getD false
theorem eqDs_all : ∀ {xs ys : List D} {b : Bool}, eqDs xs ys = some b → ((List.range (min xs.length ys.length)).all (pairB xs ys) && xs.length == ys.length) = b
  | [], [], b, e => by simp [eqDs] at e; simp [e]
  | [], _ :: _, _, e => by simp [eqDs] at e; simp [e]
  | _ :: _, [], _, e => by simp [eqDs] at e; simp [e]
  | x :: xs, y :: ys, b, e => by
    simp only [eqDs] at e
    cases e1 : eqD x y with
    | none => rw [e1] at e; cases e
    | some p =>
      cases e2 : eqDs xs ys with
      | none => rw [e1, e2] at e; cases e
      | some q =>
        rw [e1, e2] at e; cases e
        have ih := eqDs_all e2
        have hm : min (x :: xs).length (y :: ys).length = min xs.length ys.length + 1 := by simp only [List.length_cons]; omega
        have hl : ((x :: xs).length == (y :: ys).length) = (xs.length == ys.length) := by simp
        rw [hm, hl, List.range_succ_eq_map, List.all_cons, List.all_map]
        have h0 : pairB (x :: xs) (y :: ys) 0 = p := by simp [pairB, e1]
        have h1 : (pairB (x :: xs) (y :: ys) ∘ Nat.succ) = pairB xs ys := by funext j; simp [pairB]
        rw [h0, h1, Bool.and_assoc, ih]
theorem eqDs_at : ∀ {xs ys : List D} {b : Bool} (j : Nat), eqDs xs ys = some b → j < xs.length → j < ys.length → ∃ x y p, xs[j]? = some x ∧ ys[j]? = some y ∧ eqD x y = some p ∧ pairB xs ys j = p
  | [], _, _, j, _, h, _ => by simp at h
  | _ :: _, [], _, _, e, _, h => by simp at h
  | x :: xs, y :: ys, b, 0, e, _, _ => by
    simp only [eqDs] at e
    cases e1 : eqD x y with
    | none => rw [e1] at e; cases e
    | some p => exact ⟨x, y, p, rfl, rfl, e1, by simp [pairB, e1]⟩
  | x :: xs, y :: ys, b, j + 1, e, h, h' => by
    simp only [eqDs] at e
    cases e1 : eqD x y with
    | none => rw [e1] at e; cases e
    | some p =>
      cases e2 : eqDs xs ys with
      | none => rw [e1, e2] at e; cases e
      | some q =>
        obtain ⟨a, b', r, h1, h2, h3, h4⟩ := eqDs_at j e2 (by simpa using h) (by simpa using h')
        exact ⟨a, b', r, by simpa using h1, by simpa using h2, h3, by simpa [pairB] using h4⟩

theorem dep_get : ∀ {xs : List D} {j : Nat} {x : D}, xs[j]? = some x → x.dep ≤ D.deps xs
  | [], j, x, e => by simp at e
  | y :: ys, 0, x, e => by simp at e; subst e; simp [D.deps]; omega
  | y :: ys, j + 1, x, e => by
    have := dep_get (xs := ys) (j := j) (by simpa using e)
    simp [D.deps]; omega

structure AtH (c : Cx) (F : FM) (h : Heap) : Prop where
  o : ∀ a o, F.o a = some o → h.get? a = some o
  nb : NoneBooked h
  t0 : ∀ t x, F.t t = some x → 0 < t

theorem eqAt_flt {x y : UInt64} {t u : Tok} {b : Bool} (z : AtH c F s.heap) (h1 : F.t t = some x) (h2 : F.t u = some y) (e : eqD (.flt x) (.flt y) = some b) : EqAt A s (.float x t) (.float y u) b := by
  intro prog w E Q hq
  simp only [eqD] at e
  split at e
  · cases e
  · rename_i hn
    simp only [Bool.or_eq_true, not_or, Bool.not_eq_true] at hn
    cases e
    have rc : wpAny (model prog w) A (richCompare .Eq (.float x t) (.float y u) >>= fun v => truthOfDropped v) Q E s := by
      refine wpAny_bind ?_
      exact AutoFloatOps.eq_0 (wpAny_truthy_bool hq)
    have xy : x = y → (Float64.cmp x y == some Ordering.eq) = true := fun q => by subst q; rw [cmp_self hn.1]; rfl
    have tpos := z.t0 t x h1
    have upos := z.t0 u y h2
    have ht : (t == 0) = false := beq_eq_false_iff_ne.mpr (Nat.ne_of_gt tpos)
    have hu : (u == 0) = false := beq_eq_false_iff_ne.mpr (Nat.ne_of_gt upos)
    unfold eqBool
    refine wpAny_holding ?_
    refine wpAny_ite_split (fun hab => ?_) (fun hab => ?_)
    · have hab' : x = y := by have := eq_of_beq hab; injection this
      rw [xy hab'] at hq
      exact wpAny_bind (wpAny_rule (wpAny_pure hq))
    · have hab' : ¬ (x = y ∧ t = u) := fun q => hab (by rw [q.1, q.2]; exact beq_self_eq_true _)
      have htu : (t == u) = false := beq_eq_false_iff_ne.mpr fun q => hab' ⟨by subst q; rw [h1] at h2; exact Option.some.inj h2, q⟩
      show wpAny _ _ (isSame (.float x t) (.float y u) >>= _) _ _ _
      refine wpAny_bind ?_
      unfold isSame isSame.created
      simp only [ht, hu, htu, Bool.or_self, Bool.false_eq_true, if_false, pure_bind]
      by_cases hxy : x = y
      · subst hxy
        simp only [beq_self_eq_true, hn.1, Bool.not_false, Bool.and_self, Bool.not_true, Bool.false_eq_true, if_false, pure_bind]
        refine wpAny_bind (wpAny_sharingNotTold_none z.nb ?_)
        simp only [Bool.false_eq_true, if_false, pure_bind]
        refine wpAny_bind (wpAny_sharingNotTold_none z.nb ?_)
        simp only [Bool.false_eq_true, if_false, pure_bind]
        refine wpAny_bind (wpAny_rule (wpAny_bind (wpAny_askSetting ?_)))
        refine wpAny_pure ?_
        refine wpAny_ite_split (fun _ => ?_) (fun _ => rc)
        rw [xy rfl] at hq
        exact wpAny_pure hq
      · have : (x == y) = false := beq_eq_false_iff_ne.mpr hxy
        simp only [this, Bool.false_and, Bool.not_false, if_true]
        refine wpAny_pure ?_
        simp only [Bool.false_eq_true, if_false, pure_bind]
        exact rc

theorem rcAt_tups {a b : Addr} {vs us : List Value} {xs ys : List D} {r : Bool} (h1 : s.heap.IsTuple a vs.toArray) (h2 : s.heap.IsTuple b us.toArray) (hu : A.units < cLine) (e : eqDs xs ys = some r)
    (l1 : vs.length = xs.length) (l2 : us.length = ys.length) (he : ∀ (j : Nat) v u x y p, vs[j]? = some v → us[j]? = some u → xs[j]? = some x → ys[j]? = some y → eqD x y = some p → EqAt A.in1 s v u p) : RcAt A s (.ref a) (.ref b) r := by
  have := RcAt.tuples (e := pairB xs ys) h1 h2 hu fun j q1 q2 => by
    have q1' : j < vs.length := by simpa using q1
    have q2' : j < us.length := by simpa using q2
    obtain ⟨x, y, p, k1, k2, k3, k4⟩ := eqDs_at j e (by omega) (by omega)
    rw [k4]
    exact he j _ _ x y p (by simp [q1']) (by simp [q2']) k1 k2 k3
  have h1s : vs.toArray.size = xs.length := by simp; omega
  have h2s : us.toArray.size = ys.length := by simp; omega
  rw [h1s, h2s, eqDs_all e] at this
  exact this
theorem rcAt_lsts {a b : Addr} {vs us : List Value} {xs ys : List D} {r : Bool} (h1 : s.heap.IsList a vs.toArray) (h2 : s.heap.IsList b us.toArray) (hu : A.units < cLine) (e : eqD (.lst xs) (.lst ys) = some r)
    (l1 : vs.length = xs.length) (l2 : us.length = ys.length) (he : ∀ (j : Nat) v u x y p, vs[j]? = some v → us[j]? = some u → xs[j]? = some x → ys[j]? = some y → eqD x y = some p → EqAt A.in1 s v u p) : RcAt A s (.ref a) (.ref b) r := by
  simp only [eqD] at e
  by_cases hl : xs.length = ys.length
  · rw [if_pos (by simpa using hl)] at e
    have := RcAt.lists (e := pairB xs ys) h1 h2 (by simp; omega) hu fun j q1 q2 => by
      have q1' : j < vs.length := by simpa using q1
      have q2' : j < us.length := by simpa using q2
      obtain ⟨x, y, p, k1, k2, k3, k4⟩ := eqDs_at j e (by omega) (by omega)
      rw [k4]
      exact he j _ _ x y p (by simp [q1']) (by simp [q2']) k1 k2 k3
    have hmn : vs.toArray.size = xs.length := by simp; omega
    have hb := eqDs_all e
    rw [← hl, Nat.min_self, beq_self_eq_true, Bool.and_true] at hb
    rw [hmn, hb] at this
    exact this
  · rw [if_neg (by simpa using hl)] at e
    cases e
    exact RcAt.lists_lengths h1 h2 (by simp; omega) hu

theorem Rvs.at2 {vs : List Value} {xs : List D} {j : Nat} {v : Value} {x : D} (h : Rvs c.C F ρ vs xs) (h1 : vs[j]? = some v) (h2 : xs[j]? = some x) : Rv c.C F ρ v x := by
  obtain ⟨v', e, r⟩ := h.get h2
  rw [h1] at e; cases e; exact r

theorem eqAt_D : ∀ (n : Nat) {x y : D} {v u : Value} {b : Bool} (A : Around), x.dep ≤ n → AtH c F s.heap → Rv c.C F ρ v x → Rv c.C F ρ u y → eqD x y = some b → A.units + n < cLine → EqAt A s v u b := by
  intro n
  induction n with
  | zero =>
    intro x y v u b A hn z r1 r2 e hu
    cases x with
    | tup xs => simp [D.dep] at hn
    | lst xs => simp [D.dep] at hn
    | none => cases y <;> simp [eqD] at e; subst e; cases r1; cases r2; exact EqAt.same _
    | bool p => cases y <;> simp [eqD] at e; subst e; cases r1; cases r2; exact EqAt.bool_bool _ _
    | int p => cases y <;> simp [eqD] at e; subst e; cases r1; cases r2; exact EqAt.int_int _ _ _ _
    | flt p => cases y <;> first | (simp [eqD] at e; done) | skip
               cases r1 with | flt h1 => cases r2 with | flt h2 => exact eqAt_flt z h1 h2 e
    | str p =>
      cases y <;> simp [eqD] at e
      subst e
      rename_i q
      cases r1 with | str _ t1 => cases r2 with | str _ t2 =>
      have := EqAt.str_str (A := A) (s := s) ⟨p.toArray⟩ t1 ⟨q.toArray⟩ t2
      rw [show ((⟨p.toArray⟩ : Str) == ⟨q.toArray⟩) = (p == q) from ?_] at this
      · exact this
      · by_cases hpq : p = q
        · subst hpq; simp
        · have h1 : (p == q) = false := by simpa using hpq
          rw [h1, beq_eq_false_iff_ne]; intro h; apply hpq; simpa using h
    | inst as => cases y <;> simp [eqD] at e
    | loc l => cases y <;> simp [eqD] at e
  | succ n ih =>
    intro x y v u b A hn z r1 r2 e hu
    by_cases hx : x.dep ≤ n
    · exact ih A hx z r1 r2 e (by omega)
    · cases x with
      | tup xs =>
        cases y <;> first | (simp [eqD] at e; done) | skip
        rename_i ys
        have hd : D.deps xs ≤ n := by simp [D.dep] at hn; omega
        cases r1 with
        | @tup a o1 vs n1 _ h1 c1 d1 s1 =>
          cases r2 with
          | @tup a' o2 us n2 _ h2 c2 d2 s2 =>
            by_cases haa : a = a'
            · subst haa
              rw [eqD_same (.tup h1 c1 d1 s1) (.tup h2 c2 d2 s2) e]
              exact EqAt.same _
            · refine EqAt.of_refs haa (rcAt_tups ⟨_, z.o _ _ h1, c1, _, d1⟩ ⟨_, z.o _ _ h2, c2, _, d2⟩ (by omega) (by simpa [eqD] using e) s1.length s2.length fun j v u x y p k1 k2 k3 k4 k5 => ?_)
              exact ih A.in1 (Nat.le_trans (dep_get k3) hd) z (s1.at2 k1 k3) (s2.at2 k2 k4) k5 (by show A.units + 1 + n < _; omega)
      | lst xs =>
        cases y <;> first | (simp [eqD] at e; done) | skip
        rename_i ys
        have hd : D.deps xs ≤ n := by simp [D.dep] at hn; omega
        cases r1 with
        | @lst a o1 vs n1 _ h1 c1 d1 s1 =>
          cases r2 with
          | @lst a' o2 us n2 _ h2 c2 d2 s2 =>
            by_cases haa : a = a'
            · subst haa
              rw [eqD_same (.lst h1 c1 d1 s1) (.lst h2 c2 d2 s2) e]
              exact EqAt.same _
            · refine EqAt.of_refs haa (rcAt_lsts ⟨_, z.o _ _ h1, c1, _, d1⟩ ⟨_, z.o _ _ h2, c2, _, d2⟩ (by omega) e s1.length s2.length fun j v u x y p k1 k2 k3 k4 k5 => ?_)
              exact ih A.in1 (Nat.le_trans (dep_get k3) hd) z (s1.at2 k1 k3) (s2.at2 k2 k4) k5 (by show A.units + 1 + n < _; omega)
      | _ => simp [D.dep] at hx


theorem str_beq' (p q : List Nat) : ((⟨p.toArray⟩ : Str) == ⟨q.toArray⟩) = (p == q) := by
  by_cases hpq : p = q
  · subst hpq; simp
  · have h1 : (p == q) = false := by simpa using hpq
    rw [h1, beq_eq_false_iff_ne]; intro h; apply hpq; simpa using h

/-- == on top, of what is read here -/
theorem rcEq {x y : D} {v u : Value} {b : Bool} {n : Nat} (g : G c F X fa ρ σ s) (z : AtH c F s.heap) (r1 : Rd c F ρ s.heap v x) (r2 : Rd c F ρ s.heap u y) (e : eqD x y = some b) (hn : x.dep ≤ n) (hu : A.units + n < cLine) : RcAt A s v u b := by
  cases x with
  | none => cases y <;> simp [eqD] at e; subst e; rw [r1.none, r2.none]; exact RcAt.none_none
  | bool p => cases y <;> simp [eqD] at e; subst e; rw [r1.bool, r2.bool]; exact RcAt.bool_bool _ _
  | int p => cases y <;> simp [eqD] at e; subst e; obtain ⟨t, rfl⟩ := r1.int; obtain ⟨t', rfl⟩ := r2.int; exact RcAt.int_int _ _ _ _
  | flt p =>
    cases y <;> first | (simp [eqD] at e; done) | skip
    obtain ⟨t, rfl⟩ := r1.flt; obtain ⟨t', rfl⟩ := r2.flt
    simp only [eqD] at e
    split at e
    · cases e
    · cases e; intro prog w E Q hq; exact AutoFloatOps.eq_0 hq
  | str p => cases y <;> simp [eqD] at e; subst e; obtain ⟨t, rfl⟩ := r1.str; obtain ⟨t', rfl⟩ := r2.str; rw [← str_beq']; exact RcAt.str_str _ _ _ _
  | tup xs =>
    cases y <;> first | (simp [eqD] at e; done) | skip
    obtain ⟨a, vs, rfl, h1, s1⟩ := g.tuple r1
    obtain ⟨a', us, rfl, h2, s2⟩ := g.tuple r2
    have hd : D.deps xs + 1 ≤ n := hn
    refine rcAt_tups h1 h2 (by omega) (by simpa [eqD] using e) s1.length s2.length fun j v u x y p k1 k2 k3 k4 k5 => ?_
    exact eqAt_D (D.deps xs) A.in1 (dep_get k3) z (s1.at2 k1 k3) (s2.at2 k2 k4) k5 (by show A.units + 1 + _ < _; omega)
  | lst xs =>
    cases y <;> first | (simp [eqD] at e; done) | skip
    obtain ⟨a, vs, rfl, h1, s1⟩ := g.list r1
    obtain ⟨a', us, rfl, h2, s2⟩ := g.list r2
    have hd : D.deps xs + 1 ≤ n := hn
    refine rcAt_lsts h1 h2 (by omega) e s1.length s2.length fun j v u x y p k1 k2 k3 k4 k5 => ?_
    exact eqAt_D (D.deps xs) A.in1 (dep_get k3) z (s1.at2 k1 k3) (s2.at2 k2 k4) k5 (by show A.units + 1 + _ < _; omega)
  | inst as => cases y <;> simp [eqD] at e
  | loc l => cases y <;> simp [eqD] at e

theorem G.atH (g : G c F X fa ρ σ s) (hb : NoneBooked c.B) : AtH c F s.heap :=
  ⟨g.f, let ⟨mc, h1, h2⟩ := hb; ⟨mc, h1.keeps fun b o e => g.f b o (g.base b o e), h2⟩, fun t x e => (g.ft t x e).1⟩

def LtAt (A : Around) (s : Shared) (y x : Value) (b : Bool) : Prop :=
  ∀ (prog : Program) (w : World) (E : Value → Shared → Prop) (Q : Value → Shared → Prop), Q (.bool b) s → wpAny (model prog w) A (richCompare .Lt y x) Q E s

theorem tuple_ltAt (l b : Addr) (items items2 : Array Value) (n n2 : Nat) (dd dd2 : Option Addr) (sl sl2 : Array (Option Value)) (P : List Value → List Value → Bool → Prop)
    (h0 : ∀ us r, P [] us r → r = decide (0 < us.length)) (h1 : ∀ v vs r, P (v :: vs) [] r → r = false) : ∀ r : Bool,
    Meets (Builtin.«tuple.__lt__» ⟨[.ref l, .ref b], []⟩)
      (fun A R s => s.heap.get? l = some { cls := .type "tuple", dict := dd, data := .seq items n, slots := sl } ∧ s.heap.get? b = some { cls := .type "tuple", dict := dd2, data := .seq items2 n2, slots := sl2 } ∧
        P items.toList items2.toList r ∧ (∀ v vs u us r, P (v :: vs) (u :: us) r → (EqAt A.in1 s v u true ∧ P vs us r) ∨ (EqAt A.in1 s v u false ∧ LtAt A.in1 s v u r)) ∧
        R (.ok (.ret (.bool r))) s) := fun r =>
  .of_wp fun prog w A R s h => by
    obtain ⟨hp, g, d, tk, os⟩ := s; obtain ⟨hl, hb, hP, he, h⟩ := h
    have f2 := AutoSeq1.sub_tuple_tuple
    wp_walk using wpAny_loadPart' hl, wpAny_loadPart' hb, wpAny_forIn_list _ (fun rest b s' => b.1 = none ∧ s' = ⟨hp, g, d, tk, os⟩ ∧ ∃ vs us, rest = vs.zip us ∧ items.size + us.length = items2.size + vs.length ∧ P vs us r) _
    case turn =>
      rintro ⟨y, x⟩ rest b s' ⟨hb', rfl, vs, us, hz, hs, hQ⟩
      cases vs with
      | nil => simp at hz
      | cons v vs =>
        cases us with
        | nil => simp at hz
        | cons u us =>
          simp only [List.zip_cons_cons, List.cons.injEq, Prod.mk.injEq] at hz
          obtain ⟨⟨rfl, rfl⟩, rfl⟩ := hz
          rcases he _ _ _ _ _ hQ with ⟨q1, q2⟩ | ⟨q1, q2⟩
          · refine wpAny_bind (q1 prog w _ _ ?_)
            wp_walk
            exact ⟨rfl, rfl, vs, us, rfl, by simp at hs; omega, q2⟩
          · refine wpAny_bind (q1 prog w _ _ ?_)
            simp only [Bool.not_false, if_true]
            refine wpAny_bind (wpAny_rule (wpAny_bind (q2 prog w _ _ ?_)))
            wp_walk
            exact ⟨_, rfl, h⟩
    case fin =>
      rintro ⟨b1, b2⟩ s' ⟨hb', rfl, vs, us, hz, hs, hQ⟩
      simp only at hb'
      subst hb'
      wp_walk
      refine ⟨_, rfl, ?_⟩
      have : decide (items.size < items2.size) = r := by
        cases vs with
        | nil =>
          rw [h0 us r hQ]
          simp at hs
          by_cases hlt : items.size < items2.size
          · have : 0 < us.length := by omega
            simp [hlt, this]
          · have : ¬ 0 < us.length := by omega
            simp [hlt, this]
        | cons v vs =>
          cases us with
          | nil => rw [h1 v vs r hQ]; simp at hs; simp; omega
          | cons u us => simp at hz
      simp only [Builtin.Tuple.tupleCompareSizes, this]
      exact h
    case h =>
      exact ⟨rfl, rfl, _, _, rfl, by simp [Nat.add_comm], hP⟩
end
end Ev
end
section
set_option maxRecDepth 100000
set_option autoImplicit false
set_option linter.all false
namespace Ev
open PySem PySem.W PySem.Calls PyProof.Rows PySem.SeqAt

section
variable {c : Cx} {nm : Nm} {F F' : FM} {X : PMap} {fa : List (Option Addr)} {ρ ρ' : List (List Addr)} {σ σ' : Sto} {s s' : Shared} {env : Env} {vars : Vars}
variable {A : Around} {E : Value → Shared → Prop} {prog : Program} {w : World} {Q : Value → Shared → Prop}

theorem ltAt_int (a b : Int) (t u : Tok) : LtAt A s (.int a t) (.int b u) (decide (a < b)) := fun prog w E Q h => lt_int h
theorem ltAt_flt (a b : UInt64) (t u : Tok) : LtAt A s (.float a t) (.float b u) (Float64.cmp a b == some Ordering.lt) := fun prog w E Q h => AutoFloatOps.lt_0 h

theorem ltAt_tups {a b : Addr} {vs us : List Value} {r : Bool} (h1 : s.heap.IsTuple a vs.toArray) (h2 : s.heap.IsTuple b us.toArray) (hu : A.units < cLine) (P : List Value → List Value → Bool → Prop)
    (q0 : ∀ us r, P [] us r → r = decide (0 < us.length)) (q1 : ∀ v vs r, P (v :: vs) [] r → r = false) (hP : P vs us r)
    (he : ∀ v vs u us r, P (v :: vs) (u :: us) r → (EqAt A.in1 s v u true ∧ P vs us r) ∨ (EqAt A.in1 s v u false ∧ LtAt A.in1 s v u r)) : LtAt A s (.ref a) (.ref b) r := fun prog w E Q h => by
  obtain ⟨⟨cls, dd, data, sl⟩, ho, hc, n, hd⟩ := id h1
  obtain ⟨⟨cls2, dd2, data2, sl2⟩, ho2, hc2, n2, hd2⟩ := id h2
  simp only at hc hd hc2 hd2
  subst hc hd hc2 hd2
  exact richCompare_meets_room (op := .Lt) ⟨_, ho, rfl⟩ ⟨_, ho2, rfl⟩ F.slot_tuple_lt F.entry_tuple_lt (F.args_tuple_lt_2 _ _) (tuple_ltAt a b vs.toArray us.toArray n n2 dd dd2 sl sl2 P q0 q1 r)
    ⟨ho, ho2, hP, he, show Value.bool r ≠ Value.notImplemented ∧ Q (.bool r) s from ⟨(fun x => nomatch x), h⟩⟩ hu

def LexP (c : Cx) (F : FM) (ρ : List (List Addr)) (n : Nat) (vs us : List Value) (r : Bool) : Prop := ∃ xs ys, Rvs c.C F ρ vs xs ∧ Rvs c.C F ρ us ys ∧ ltDs xs ys = some r ∧ D.deps xs ≤ n
theorem lex_nil {n : Nat} : ∀ us r, LexP c F ρ n [] us r → r = decide (0 < us.length) := by
  rintro us r ⟨xs, ys, h1, h2, h3, _⟩
  cases h1
  cases h2 with
  | nil => simp [ltDs] at h3; subst h3; rfl
  | cons _ _ => simp [ltDs] at h3; subst h3; simp
theorem lex_end {n : Nat} : ∀ v vs r, LexP c F ρ n (v :: vs) [] r → r = false := by
  rintro v vs r ⟨xs, ys, h1, h2, h3, _⟩
  cases h2
  cases h1 with
  | cons _ _ => simp [ltDs] at h3; exact h3

theorem ltAt_D : ∀ (n : Nat) {x y : D} {v u : Value} {b : Bool} (A : Around), x.dep ≤ n → AtH c F s.heap → Rv c.C F ρ v x → Rv c.C F ρ u y → ltD x y = some b → A.units + n < cLine → LtAt A s v u b := by
  intro n
  induction n with
  | zero =>
    intro x y v u b A hn z r1 r2 e hu
    cases x with
    | tup xs => simp [D.dep] at hn
    | int p => cases y <;> simp [ltD] at e; subst e; cases r1; cases r2; exact ltAt_int _ _ _ _
    | flt p =>
      cases y <;> first | (simp [ltD] at e; done) | skip
      simp only [ltD] at e
      split at e
      · cases e
      · cases e; cases r1; cases r2; exact ltAt_flt _ _ _ _
    | _ => cases y <;> simp [ltD] at e
  | succ n ih =>
    intro x y v u b A hn z r1 r2 e hu
    by_cases hx : x.dep ≤ n
    · exact ih A hx z r1 r2 e (by omega)
    · cases x with
      | tup xs =>
        cases y <;> first | (simp [ltD] at e; done) | skip
        rename_i ys
        have hd : D.deps xs ≤ n := by simp [D.dep] at hn; omega
        cases r1 with
        | @tup a o1 vs n1 _ h1 c1 d1 s1 =>
          cases r2 with
          | @tup a' o2 us n2 _ h2 c2 d2 s2 =>
            refine ltAt_tups ⟨_, z.o _ _ h1, c1, _, d1⟩ ⟨_, z.o _ _ h2, c2, _, d2⟩ (by omega) (LexP c F ρ n) lex_nil lex_end ⟨xs, ys, s1, s2, by simpa [ltD] using e, hd⟩ ?_
            rintro v vs u us r ⟨xs, ys, h1, h2, h3, h4⟩
            cases h1 with
            | @cons _ x _ xs k1 s1 =>
              cases h2 with
              | @cons _ y _ ys k2 s2 =>
                simp only [ltDs] at h3
                simp only [D.deps] at h4
                have hu' : A.in1.units + n < cLine := by show A.units + 1 + n < _; omega
                cases e1 : eqD x y with
                | none => rw [e1] at h3; cases h3
                | some p =>
                  rw [e1] at h3
                  cases p with
                  | true => exact .inl ⟨eqAt_D n A.in1 (by omega) z k1 k2 e1 hu', xs, ys, s1, s2, h3, by omega⟩
                  | false => exact .inr ⟨eqAt_D n A.in1 (by omega) z k1 k2 e1 hu', ih A.in1 (by omega) z k1 k2 h3 hu'⟩
      | lst xs => cases y <;> simp [ltD] at e
      | _ => simp [D.dep] at hx

theorem rcLt {x y : D} {v u : Value} {b : Bool} {n : Nat} (g : G c F X fa ρ σ s) (z : AtH c F s.heap) (r1 : Rd c F ρ s.heap v x) (r2 : Rd c F ρ s.heap u y) (e : ltD x y = some b) (hn : x.dep ≤ n) (hu : A.units + n < cLine) : LtAt A s v u b := by
  cases r1 with
  | old r1 => cases r2 with
    | old r2 => exact ltAt_D n A hn z r1 r2 e hu
    | live h1 h2 => cases x <;> simp [ltD] at e
  | live h1 h2 => cases y <;> simp [ltD] at e


theorem rcne_tups {a b : Addr} {vs us : List Value} {xs ys : List D} {r : Bool} (h1 : s.heap.IsTuple a vs.toArray) (h2 : s.heap.IsTuple b us.toArray) (hu : A.units < cLine) (e : eqDs xs ys = some r)
    (l1 : vs.length = xs.length) (l2 : us.length = ys.length) (he : ∀ (j : Nat) v u x y p, vs[j]? = some v → us[j]? = some u → xs[j]? = some x → ys[j]? = some y → eqD x y = some p → EqAt A.in1 s v u p) : RcNeAt A s (.ref a) (.ref b) (!r) := by
  have := RcNeAt.tuples (e := pairB xs ys) h1 h2 hu fun j q1 q2 => by
    have q1' : j < vs.length := by simpa using q1
    have q2' : j < us.length := by simpa using q2
    obtain ⟨x, y, p, k1, k2, k3, k4⟩ := eqDs_at j e (by omega) (by omega)
    rw [k4]
    exact he j _ _ x y p (by simp [q1']) (by simp [q2']) k1 k2 k3
  have h1s : vs.toArray.size = xs.length := by simp; omega
  have h2s : us.toArray.size = ys.length := by simp; omega
  rw [h1s, h2s, eqDs_all e] at this
  exact this
theorem rcne_lsts {a b : Addr} {vs us : List Value} {xs ys : List D} {r : Bool} (h1 : s.heap.IsList a vs.toArray) (h2 : s.heap.IsList b us.toArray) (hu : A.units < cLine) (e : eqD (.lst xs) (.lst ys) = some r)
    (l1 : vs.length = xs.length) (l2 : us.length = ys.length) (he : ∀ (j : Nat) v u x y p, vs[j]? = some v → us[j]? = some u → xs[j]? = some x → ys[j]? = some y → eqD x y = some p → EqAt A.in1 s v u p) : RcNeAt A s (.ref a) (.ref b) (!r) := by
  simp only [eqD] at e
  by_cases hl : xs.length = ys.length
  · rw [if_pos (by simpa using hl)] at e
    have := RcNeAt.lists (e := pairB xs ys) h1 h2 (by simp; omega) hu fun j q1 q2 => by
      have q1' : j < vs.length := by simpa using q1
      have q2' : j < us.length := by simpa using q2
      obtain ⟨x, y, p, k1, k2, k3, k4⟩ := eqDs_at j e (by omega) (by omega)
      rw [k4]
      exact he j _ _ x y p (by simp [q1']) (by simp [q2']) k1 k2 k3
    have hmn : vs.toArray.size = xs.length := by simp; omega
    have hb := eqDs_all e
    rw [← hl, Nat.min_self, beq_self_eq_true, Bool.and_true] at hb
    rw [hmn, hb] at this
    exact this
  · rw [if_neg (by simpa using hl)] at e
    cases e
    exact RcNeAt.lists_lengths h1 h2 (by simp; omega) hu

theorem rcNe {x y : D} {v u : Value} {b : Bool} {n : Nat} (g : G c F X fa ρ σ s) (z : AtH c F s.heap) (r1 : Rd c F ρ s.heap v x) (r2 : Rd c F ρ s.heap u y) (e : eqD x y = some b) (hn : x.dep ≤ n) (hu : A.units + n < cLine) : RcNeAt A s v u (!b) := by
  cases x with
  | none => cases y <;> simp [eqD] at e; subst e; rw [r1.none, r2.none]; exact RcNeAt.none_none
  | bool p => cases y <;> simp [eqD] at e; subst e; rw [r1.bool, r2.bool]; exact RcNeAt.bool_bool _ _
  | int p => cases y <;> simp [eqD] at e; subst e; obtain ⟨t, rfl⟩ := r1.int; obtain ⟨t', rfl⟩ := r2.int; exact RcNeAt.int_int _ _ _ _
  | flt p =>
    cases y <;> first | (simp [eqD] at e; done) | skip
    obtain ⟨t, rfl⟩ := r1.flt; obtain ⟨t', rfl⟩ := r2.flt
    simp only [eqD] at e
    split at e
    · cases e
    · cases e; intro prog w E Q hq; exact AutoFloatOps.ne_0 hq
  | str p => cases y <;> simp [eqD] at e; subst e; obtain ⟨t, rfl⟩ := r1.str; obtain ⟨t', rfl⟩ := r2.str; rw [← str_beq']; exact RcNeAt.str_str _ _ _ _
  | tup xs =>
    cases y <;> first | (simp [eqD] at e; done) | skip
    obtain ⟨a, vs, rfl, h1, s1⟩ := g.tuple r1
    obtain ⟨a', us, rfl, h2, s2⟩ := g.tuple r2
    have hd : D.deps xs + 1 ≤ n := hn
    refine rcne_tups h1 h2 (by omega) (by simpa [eqD] using e) s1.length s2.length fun j v u x y p k1 k2 k3 k4 k5 => ?_
    exact eqAt_D (D.deps xs) A.in1 (dep_get k3) z (s1.at2 k1 k3) (s2.at2 k2 k4) k5 (by show A.units + 1 + _ < _; omega)
  | lst xs =>
    cases y <;> first | (simp [eqD] at e; done) | skip
    obtain ⟨a, vs, rfl, h1, s1⟩ := g.list r1
    obtain ⟨a', us, rfl, h2, s2⟩ := g.list r2
    have hd : D.deps xs + 1 ≤ n := hn
    refine rcne_lsts h1 h2 (by omega) e s1.length s2.length fun j v u x y p k1 k2 k3 k4 k5 => ?_
    exact eqAt_D (D.deps xs) A.in1 (dep_get k3) z (s1.at2 k1 k3) (s2.at2 k2 k4) k5 (by show A.units + 1 + _ < _; omega)
  | inst as => cases y <;> simp [eqD] at e
  | loc l => cases y <;> simp [eqD] at e

theorem cmpOk {op : CmpOp} {v u : Value} {x y : D} {b : Bool} (gd : Good 0 A) (g : G c F X fa ρ σ s) (nb : NoneBooked c.B) (r1 : Rd c F ρ s.heap v x) (r2 : Rd c F ρ s.heap u y) (hd : x.dep ≤ 50) (e : cmpD op x y = some b)
    (h : Q (.bool b) s) : wpAny (model prog w) A (compareOp op v u) Q E s := by
  have z := g.atH nb
  have hu : A.units + 50 < cLine := by have := gd.units; omega
  unfold cmpD at e
  split at e
  · exact rcEq g z r1 r2 e hd hu prog w E Q h
  · obtain ⟨b', e1, rfl⟩ := Option.map_eq_some_iff.mp e
    exact rcNe g z r1 r2 e1 hd hu prog w E Q h
  · exact rcLt g z r1 r2 e hd hu prog w E Q h
  · obtain ⟨t, rfl⟩ := r1.int; obtain ⟨t', rfl⟩ := r2.int; cases e; exact le_int h
  · obtain ⟨t, rfl⟩ := r1.int; obtain ⟨t', rfl⟩ := r2.int; cases e; exact gt_int h
  · obtain ⟨t, rfl⟩ := r1.int; obtain ⟨t', rfl⟩ := r2.int; cases e; exact ge_int h
  · obtain ⟨t, rfl⟩ := r1.flt; obtain ⟨t', rfl⟩ := r2.flt; cases e; exact AutoFloatOps.le_0 h
  · obtain ⟨t, rfl⟩ := r1.flt; obtain ⟨t', rfl⟩ := r2.flt; cases e; exact AutoFloatOps.gt_0 h
  · obtain ⟨t, rfl⟩ := r1.flt; obtain ⟨t', rfl⟩ := r2.flt; cases e; exact AutoFloatOps.ge_0 h
  · cases e

theorem allBool_reads {vs : List Value} {xs : List D} {bs : List Bool} (h : Rvs c.C F ρ vs xs) (e : allBool xs = some bs) : vs = bs.map Value.bool := by
  induction xs generalizing vs bs with
  | nil => cases h; simp [allBool] at e; subst e; rfl
  | cons x xs ih =>
    cases h with
    | cons hv hs =>
      cases hv <;> simp [allBool] at e
      obtain ⟨r, e1, rfl⟩ := e
      rw [ih hs e1]; rfl
theorem reads_bools {h : Heap} : ∀ bs : List Bool, ∃ as, ReadsAll h (bs.map Value.bool) (bs.map PyData.bool) as
  | [] => ⟨_, .nil⟩
  | b :: bs => let ⟨as, r⟩ := reads_bools bs; ⟨_, .cons (Reads.bool b) r⟩

theorem bools_lay : ∀ bs : List Bool, PyData.canLayAll0 (bs.map PyData.bool) = true ∧ PyData.depthAll (bs.map PyData.bool) = 0
  | [] => ⟨rfl, rfl⟩
  | b :: bs => by simp [PyData.canLayAll0, PyData.depthAll, PyData.canLay0, PyData.depth, bools_lay bs]
theorem bools_any (b : Bool) : ∀ bs : List Bool, ((bs.map PyData.bool).any fun y => PyData.eqv y (.bool b)) = bs.contains b
  | [] => rfl
  | x :: bs => by
    simp only [List.map_cons, List.any_cons, bools_any b bs, List.contains_cons, PyData.eqv]
    cases x <;> cases b <;> rfl
theorem inOk {v u : Value} {x y : D} {b : Bool} {Q : Value → Shared → Prop} (gd : Good 0 A) (g : G c F X fa ρ σ s) (r1 : Rd c F ρ s.heap v x) (r2 : Rd c F ρ s.heap u y) (e : inD x y = some b) :
    (Q (.bool b) s → wpAny (model prog w) A (compareOp .In v u) Q E s) ∧ (Q (.bool !b) s → wpAny (model prog w) A (compareOp .NotIn v u) Q E s) := by
  unfold inD at e
  split at e
  · rename_i a xs
    obtain ⟨bs, e1, rfl⟩ := Option.map_eq_some_iff.mp e
    rw [r1.bool]
    obtain ⟨l, vs, rfl, hl, hs⟩ := g.list r2
    have hv := allBool_reads hs e1
    subst hv
    obtain ⟨as, ra⟩ := reads_bools (h := s.heap) bs
    obtain ⟨o, ho, hc, n, hd⟩ := hl
    have rl : Reads s.heap (.ref l) (.list (bs.map PyData.bool)) (l :: as) := reads_list_at ho hc hd (by simpa using ra)
    have hu : A.units + 1 + min (PyData.depthAll (bs.map PyData.bool)) (PyData.depth (.bool a)) < cLine := by
      have := gd.units; rw [(bools_lay bs).2]; simp; omega
    exact ⟨fun h => in_list_reads rl (Reads.bool a) (bools_lay bs).1 rfl hu (by rw [bools_any]; exact h), fun h => notIn_list_reads rl (Reads.bool a) (bools_lay bs).1 rfl hu (by rw [bools_any]; exact h)⟩
  · cases e

theorem truthOk {v : Value} {x : D} {b : Bool} {Q : Bool → Shared → Prop} (g : G c F X fa ρ σ s) (r : Rd c F ρ s.heap v x) (e : truthD x = some b) (h : ∀ s', Kp s s' → Q b s') : wpAny (model prog w) A (truthy v) Q E s := by
  refine wpAny_with_toks (Nat.le_refl _) ?_
  unfold truthD at e
  split at e
  · cases e; rw [r.bool]; exact wpAny_truthy_bool fun _ => h _ .rfl
  · cases e; obtain ⟨t, rfl⟩ := r.int
    exact PyProof.Rows.truthy_int fun _ => h _ .rfl
  · split at e
    · rename_i xs hl'; cases e
      obtain ⟨l, vs, rfl, hl, hs⟩ := g.list r
      refine wpAny_truthy_list hl (by simp [hs.length]; unfold maxLen at hl'; omega) fun ht => ?_
      have he : (vs.toArray.isEmpty) = xs.isEmpty := by
        cases hs with
        | nil => rfl
        | cons _ _ => simp
      rw [he]
      exact h _ (.toks' ht)
    · cases e
  · cases e
end
end Ev
end
section
set_option maxRecDepth 100000
set_option autoImplicit false
set_option linter.all false
namespace Ev
open PySem PySem.W PySem.Calls PyProof.Rows PySem.SeqAt

/-- the tree t, in this frame, from vars, σ hands back d and leaves σ' -/
def EvV (c : Cx) (nm : Nm) (X : PMap) (env : Env) (fa : List (Option Addr)) (A : Around) (t : Sem Value) (vars : Vars) (σ : Sto) (d : D) (σ' : Sto) : Prop :=
  ∀ F ρ s Q Ex, W c nm X env fa F ρ vars σ s → (∀ F' ρ' v s', PLe F F' → ρ <+: ρ' → W c nm X env fa F' ρ' vars σ' s' → Rv c.C F' ρ' v d → Q v s') → wpAny (model c.prog c.w) A t Q Ex s
def EvB (c : Cx) (nm : Nm) (X : PMap) (env : Env) (fa : List (Option Addr)) (A : Around) (t : Sem Bool) (vars : Vars) (σ : Sto) (b : Bool) (σ' : Sto) : Prop :=
  ∀ F ρ s Q Ex, W c nm X env fa F ρ vars σ s → (∀ F' ρ' s', PLe F F' → ρ <+: ρ' → W c nm X env fa F' ρ' vars σ' s' → Q b s') → wpAny (model c.prog c.w) A t Q Ex s
def EvL (c : Cx) (nm : Nm) (X : PMap) (env : Env) (fa : List (Option Addr)) (A : Around) (t : Sem (List Value)) (vars : Vars) (σ : Sto) (ds : List D) (σ' : Sto) : Prop :=
  ∀ F ρ s Q Ex, W c nm X env fa F ρ vars σ s → (∀ F' ρ' vs s', PLe F F' → ρ <+: ρ' → W c nm X env fa F' ρ' vars σ' s' → Rvs c.C F' ρ' vs ds → Q vs s') → wpAny (model c.prog c.w) A t Q Ex s

section
variable {c : Cx} {nm : Nm} {X : PMap} {fa : List (Option Addr)} {σ σ' σ1 σ2 σ3 : Sto} {env : Env} {vars : Vars} {A : Around}

theorem EvV.of_res {t : Sem Value} {d : D} (h : ∀ F ρ s (Q : Value → Shared → Prop) (Ex : Value → Shared → Prop), W c nm X env fa F ρ vars σ s → (∀ v s', Kp s s' → Res c F ρ s s' v d → Q v s') → wpAny (model c.prog c.w) A t Q Ex s) : EvV c nm X env fa A t vars σ d σ := by
  intro F ρ s Q Ex w post
  refine h F ρ s Q Ex w fun v s' k r => ?_
  obtain ⟨F', le, w', rv⟩ := w.res k r
  exact post F' ρ v s' le (List.prefix_refl _) w' rv

theorem EvV.const {k : Const} {d : D} {n : Nat} {pos : Pos} (e : compConst k = some d) (hf : isFlt d = true → c.pos = true) : EvV c nm X env fa A (eval (.Constant k n pos) env) vars σ d σ := by
  refine EvV.of_res fun F ρ s Q Ex w h => ?_
  cases k <;> simp [compConst] at e <;> subst e
  · exact wpAny_Constant_none (h _ _ .rfl (.old .none))
  · exact wpAny_Constant_bool (h _ _ .rfl (.old (.bool _)))
  · show wpAny _ _ (mkInt _) _ _ _
    exact wpAny_mkInt (h _ _ .tok (.old (.int _ _)))
  · exact PySem.wpAny_Constant_float (h _ _ .tok (.flt (w.g.tpos (hf rfl)) (Nat.le_refl _) (Nat.lt_succ_self _)))
  · rename_i x
    refine wpAny_Constant_str ?_
    have : x = ⟨x.cps.toList.toArray⟩ := by simp
    rw [this]
    exact h _ _ .tok (.old (.str _ _))

theorem compVar_idx {nm : Nm} {x : Str} {i : Nat} (e : compVar nm x = some i) : ∃ k, nmIdx nm x = some (i, k) ∧ (k = .local ∨ k = .cell ∨ k = .free) ∧ (x == ("__debug__" : Str)) = false ∧ (x == ("__classdict__" : Str)) = false := by
  unfold compVar at e
  cases h : nmIdx nm x with
  | none => rw [h] at e; cases e
  | some p =>
    obtain ⟨j, k⟩ := p
    rw [h] at e
    cases k <;> simp [plainVar] at e <;> obtain ⟨⟨h1, h2⟩, rfl⟩ := e <;> exact ⟨_, rfl, by simp, by simpa using h1, by simpa using h2⟩
theorem nmIdx_get : ∀ {nm : Nm} {x : Str} {i : Nat} {k : NameKind}, nmIdx nm x = some (i, k) → nm[i]? = some (x, k)
  | [], x, i, k, e => by simp [nmIdx] at e
  | (y, j) :: r, x, i, k, e => by
    unfold nmIdx at e
    split at e
    · rename_i h; cases e; rw [eq_of_beq h]; rfl
    · obtain ⟨⟨i', k'⟩, h1, h2⟩ := Option.map_eq_some_iff.mp e
      cases h2
      simpa using nmIdx_get h1
theorem nmIdx_lookup : ∀ {nm : Nm} {x : Str} {i : Nat} {k : NameKind}, nmIdx nm x = some (i, k) → nm.lookup x = some k
  | [], x, i, k, e => by simp [nmIdx] at e
  | (y, j) :: r, x, i, k, e => by
    unfold nmIdx at e
    split at e
    · rename_i h; cases e; rw [List.lookup_cons, h]
    · rename_i h
      obtain ⟨⟨i', k'⟩, h1, h2⟩ := Option.map_eq_some_iff.mp e
      cases h2
      rw [List.lookup_cons, show (x == y) = false by simpa using h]
      exact nmIdx_lookup h1

theorem EvV.var {x : Str} {i : Nat} {pos : Pos} {d : D} (e : compVar nm x = some i) (h : vars[i]?.join = some d) : EvV c nm X env fa A (eval (.Name x pos) env) vars σ d σ := by
  intro F ρ s Q Ex w post
  obtain ⟨k, h1, h2, h3, h4⟩ := compVar_idx e
  have hv : vars[i]? = some (some d) := by
    cases q : vars[i]? with
    | none => rw [q] at h; cases h
    | some o => rw [q] at h; simp at h; rw [h]
  exact w.f.load w.g (nmIdx_get h1) h2 hv h3 h4 fun v r => post F ρ v s PLe.rfl (List.prefix_refl _) w r

theorem EvV.bin {a b : Expr} {op : Operator} {pos : Pos} {x y x' y' z : D} (gd : Good 0 A) (ha : EvV c nm X env fa A (eval a env) vars σ x σ1) (hb : EvV c nm X env fa A (eval b env) vars σ1 y σ2)
    (ex : res σ2 x = some x') (ey : res σ2 y = some y') (e : binD op x' y' = some z) (hf : isFlt z = true → c.pos = true) : EvV c nm X env fa A (eval (.BinOp a op b pos) env) vars σ z σ2 := by
  intro F ρ s Q Ex w post
  show wpAny _ _ (eval a env >>= fun x => holding [x] (eval b env) >>= fun y => standAt pos >>= fun _ => operate [x, y] (binaryOp op x y)) Q Ex s
  refine wpAny_bind (ha F ρ s _ Ex w fun F1 ρ1 v1 s1 l1 p1 w1 r1 => wpAny_bind (wpAny_holding (hb F1 ρ1 s1 _ Ex w1 fun F2 ρ2 v2 s2 l2 p2 w2 r2 => ?_)))
  refine wpAny_bind (wpAny_standAt (wpAny_operate ?_))
  refine binOk gd (w2.g.rd (r1.mono l2 p2) ex) (w2.g.rd r2 ey) e (fun q => w2.g.tpos (hf q)) fun v s3 k r => ?_
  obtain ⟨F3, l3, w3, r3⟩ := w2.res k r
  exact post F3 ρ2 v s3 ((l1.trans l2).trans l3) (p1.trans p2) w3 r3

theorem list_plus {s : Shared} {prog : Program} {w : World} {E : Value → Shared → Prop} {l b : Addr} {vs ws : List Value} {Q : Value → Shared → Prop} (hl : s.heap.IsList l vs.toArray) (hb : s.heap.IsList b ws.toArray) (hsz : vs.length + ws.length ≤ sizeLine)
    (h : Q (.ref s.heap.objs.size) { s with heap := s.heap.push { cls := .type "list", data := .seq (vs ++ ws).toArray } }) : wpAny (model prog w) A (binaryOp .Add (.ref l) (.ref b)) Q E s := by
  obtain ⟨⟨c1, d1, t1, sl1⟩, o1, e1, n1, q1⟩ := id hl
  obtain ⟨⟨c2, d2, t2, sl2⟩, o2, e2, n2, q2⟩ := id hb
  dsimp only at e1 q1 e2 q2
  subst e1 q1 e2 q2
  refine concat_meets ⟨_, o1, rfl⟩ ⟨_, o2, rfl⟩ noFill_list_add seq_list_add PySem.F.slot_list_add PySem.F.entry_list_add (PySem.F.args_list_add_2 _ _) (list_addW l b vs.toArray ws.toArray n1 n2 d1 d2 sl1 sl2 (by simpa using hsz)) ⟨o1, o2, ?_⟩
  rw [show vs.toArray ++ ws.toArray = (vs ++ ws).toArray by simp]
  exact h
theorem EvV.addl {a b : Expr} {pos : Pos} {x y : D} {xs ys : List D} (ha : EvV c nm X env fa A (eval a env) vars σ x σ1) (hb : EvV c nm X env fa A (eval b env) vars σ1 y σ2)
    (ex : res σ2 x = some (.lst xs)) (ey : res σ2 y = some (.lst ys)) (e : xs.length + ys.length ≤ maxLen) : EvV c nm X env fa A (eval (.BinOp a .Add b pos) env) vars σ (.loc σ2.length) (σ2 ++ [some (.lst (xs ++ ys))]) := by
  intro F ρ s Q Ex w post
  show wpAny _ _ (eval a env >>= fun x => holding [x] (eval b env) >>= fun y => standAt pos >>= fun _ => operate [x, y] (binaryOp .Add x y)) Q Ex s
  refine wpAny_bind (ha F ρ s _ Ex w fun F1 ρ1 v1 s1 l1 p1 w1 r1 => wpAny_bind (wpAny_holding (hb F1 ρ1 s1 _ Ex w1 fun F2 ρ2 v2 s2 l2 p2 w2 r2 => ?_)))
  refine wpAny_bind (wpAny_standAt (wpAny_operate ?_))
  obtain ⟨l, vs, rfl, hl, hs⟩ := w2.g.list (w2.g.rd (r1.mono l2 p2) ex)
  obtain ⟨l', us, rfl, hl', hs'⟩ := w2.g.list (w2.g.rd r2 ey)
  refine list_plus hl hl' (by rw [hs.length, hs'.length]; exact size_of_maxLen e) ?_
  have g3 := w2.g.push_list (hs.append hs') 0
  have hlen : ρ2.length = σ2.length := w2.g.len
  refine post F2 _ _ _ (l1.trans l2) ((p1.trans p2).trans (List.prefix_append _ _)) ((w2.keep .push).intoG g3 PLe.rfl (List.prefix_append _ _)) (.loc ⟨[], ?_⟩)
  rw [List.getElem?_append_right (by omega)]; simp [hlen]

theorem EvV.neg {a : Expr} {pos : Pos} {i : Int} (ha : EvV c nm X env fa A (eval a env) vars σ (.int i) σ1) : EvV c nm X env fa A (eval (.UnaryOp .USub a pos) env) vars σ (.int (-i)) σ1 := by
  intro F ρ s Q Ex w post
  refine wpAny_UnaryOp (ha F ρ s _ Ex w fun F1 ρ1 v1 s1 l1 p1 w1 r1 => ?_)
  cases r1 with
  | int _ t => exact PyProof.Rows.neg_int (post F1 ρ1 _ _ l1 p1 (w1.keep .tok) (.int _ _))

theorem EvV.ofB {e : Expr} {pos : Pos} {b : Bool} (h : EvB c nm X env fa A (isTrue e env (eval e env)) vars σ b σ1) (hv : ∀ F ρ s Q Ex, W c nm X env fa F ρ vars σ s → wpAny (model c.prog c.w) A (isTrue e env (eval e env)) (fun b s' => Q (.bool (!b)) s') Ex s → wpAny (model c.prog c.w) A (eval (.UnaryOp .Not e pos) env) Q Ex s) :
    EvV c nm X env fa A (eval (.UnaryOp .Not e pos) env) vars σ (.bool !b) σ1 := by
  intro F ρ s Q Ex w post
  refine hv F ρ s Q Ex w (h F ρ s _ Ex w fun F1 ρ1 s1 l1 p1 w1 => post F1 ρ1 _ _ l1 p1 w1 (.bool _))

/-- the truth of a tree's value -/
theorem EvV.truth {t : Sem Value} {x y : D} {b : Bool} (h : EvV c nm X env fa A t vars σ x σ1) (ex : res σ1 x = some y) (e : truthD y = some b) : EvB c nm X env fa A (t >>= fun v => truthy v) vars σ b σ1 := by
  intro F ρ s Q Ex w post
  refine wpAny_bind (h F ρ s _ Ex w fun F1 ρ1 v1 s1 l1 p1 w1 r1 => ?_)
  exact truthOk w1.g (w1.g.rd r1 ex) e fun s2 k => post F1 ρ1 s2 l1 p1 (w1.keep k)

theorem EvV.cmp {a b : Expr} {op : CmpOp} {pos : Pos} {x y x' y' : D} {r : Bool} (gd : Good 0 A) (nb : NoneBooked c.B) (ha : EvV c nm X env fa A (eval a env) vars σ x σ1) (hb : EvV c nm X env fa A (eval b env) vars σ1 y σ2)
    (ex : res σ2 x = some x') (ey : res σ2 y = some y') (h : ∀ F ρ s v u Q Ex, W c nm X env fa F ρ vars σ2 s → Rd c F ρ s.heap v x' → Rd c F ρ s.heap u y' → Q (.bool r) s → wpAny (model c.prog c.w) A (compareOp op v u) Q Ex s)
    (hm : ∀ t : Sem Value, markedEach [op] [b] [t] = [t]) : EvV c nm X env fa A (eval (.Compare a [op] [b] pos) env) vars σ (.bool r) σ2 ∧ EvB c nm X env fa A (testChain pos |> fun _ => isTrue (.Compare a [op] [b] pos) env (eval (.Compare a [op] [b] pos) env)) vars σ r σ2 := by
  constructor
  · intro F ρ s Q Ex w post
    show wpAny _ _ (eval a env >>= fun x => compareChain pos x [op] (markedEach [op] [b] [eval b env])) Q Ex s
    rw [hm]
    refine wpAny_bind (ha F ρ s _ Ex w fun F1 ρ1 v1 s1 l1 p1 w1 r1 => ?_)
    unfold compareChain
    refine wpAny_bind (wpAny_holding (hb F1 ρ1 s1 _ Ex w1 fun F2 ρ2 v2 s2 l2 p2 w2 r2 => wpAny_bind (wpAny_standAt (wpAny_operate ?_))))
    exact h F2 ρ2 s2 v1 v2 _ _ w2 (w2.g.rd (r1.mono l2 p2) ex) (w2.g.rd r2 ey) (post F2 ρ2 _ _ (l1.trans l2) (p1.trans p2) w2 (.bool _))
  · intro F ρ s Q Ex w post
    show wpAny _ _ (eval a env >>= fun x => testChain pos x [op] (markedEach [op] [b] [eval b env])) Q Ex s
    rw [hm]
    refine wpAny_bind (ha F ρ s _ Ex w fun F1 ρ1 v1 s1 l1 p1 w1 r1 => ?_)
    unfold testChain
    refine wpAny_bind (wpAny_holding (hb F1 ρ1 s1 _ Ex w1 fun F2 ρ2 v2 s2 l2 p2 w2 r2 => wpAny_bind (wpAny_standAt (wpAny_bind (wpAny_operate ?_)))))
    exact h F2 ρ2 s2 v1 v2 _ _ w2 (w2.g.rd (r1.mono l2 p2) ex) (w2.g.rd r2 ey) (wpAny_holding (wpAny_truthy_bool (post F2 ρ2 _ (l1.trans l2) (p1.trans p2) w2)))
end
end Ev
end
section
set_option maxRecDepth 100000
set_option autoImplicit false
set_option linter.all false
namespace Ev
open PySem PySem.W PySem.Calls PyProof.Rows PySem.SeqAt

section
variable {c : Cx} {nm : Nm} {X : PMap} {fa : List (Option Addr)} {σ σ' σ1 σ2 σ3 σ4 : Sto} {env : Env} {vars : Vars} {A : Around}

theorem W.newTup {F : FM} {ρ : List (List Addr)} {s : Shared} {vs : List Value} {ds : List D} (w : W c nm X env fa F ρ vars σ s) (r : Rvs c.C F ρ vs ds) :
    ∃ F', PLe F F' ∧ W c nm X env fa F' ρ vars σ { s with heap := s.heap.push { cls := .type "tuple", data := .seq vs.toArray } } ∧ Rv c.C F' ρ (.ref s.heap.objs.size) (.tup ds) :=
  w.res .push (.tup (o := { cls := .type "tuple", data := .seq vs.toArray }) (none_at_size _) (Heap.get?_push_size _ rfl) rfl rfl r)
theorem W.newLst {F : FM} {ρ : List (List Addr)} {s : Shared} {vs : List Value} {ds : List D} (w : W c nm X env fa F ρ vars σ s) (r : Rvs c.C F ρ vs ds) :
    ∃ F', PLe F F' ∧ W c nm X env fa F' ρ vars σ { s with heap := s.heap.push { cls := .type "list", data := .seq vs.toArray } } ∧ Rv c.C F' ρ (.ref s.heap.objs.size) (.lst ds) :=
  w.res .push (.lst (o := { cls := .type "list", data := .seq vs.toArray }) (none_at_size _) (Heap.get?_push_size _ rfl) rfl rfl r)
theorem list_times {s : Shared} {prog : Program} {w : World} {E : Value → Shared → Prop} {l : Addr} {v : Value} {x : Int} {u : Tok} {Q : Value → Shared → Prop} (hl : s.heap.get? l = some { cls := .type "list", data := .seq #[v] })
    (hlo : -(2 ^ 63 : Int) ≤ x) (hhi : x < 2 ^ 63) (hsz : x.toNat ≤ 2 ^ 20)
    (h : Q (.ref s.heap.objs.size) { s with heap := s.heap.push { cls := .type "list", data := .seq (List.replicate x.toNat v).toArray } }) : wpAny (model prog w) A (binaryOp .Mult (.ref l) (.int x u)) Q E s := by
  have hfit : (!Builtin.List.listFitsIndex x) = false := by simp [Builtin.List.listFitsIndex]; omega
  have hq : List.foldl (fun x1 x2 => x1 ++ x2) #[] (List.replicate (if (#[v] : Array Value).isEmpty = true then 0 else x.toNat) #[v]) = (List.replicate x.toNat v).toArray := by
    have : ∀ (n : Nat) (acc : Array Value), List.foldl (fun x1 x2 => x1 ++ x2) acc (List.replicate n #[v]) = acc ++ (List.replicate n v).toArray := by
      intro n
      induction n with
      | zero => intro acc; simp
      | succ n ih => intro acc; rw [List.replicate_succ, List.foldl_cons, ih, List.replicate_succ]; apply Array.ext'; simp
    simp [this]
  refine wpAny_binaryOp_repeat_ref (T := "list") (U := "int") (by decide) ⟨_, hl, rfl⟩ (fun s' => typeIs_int s' x u) noFill_list_mul PySem.F.fills_int_mul PySem.F.slot_int_rmul repeat_list PySem.F.slot_int_index.lookup
    (call_meets PySem.F.slot_int_rmul (typeIs_int s x u) PySem.F.entry_int_rmul (PySem.F.args_int_rmul_2 _ _) (int___rmul___int_list x u l #[v] 0)
      ⟨hl, rfl, ⟨_, hl, rfl⟩, call_meets PySem.F.slot_list_mul ⟨_, hl, rfl⟩ PySem.F.entry_list_mul (PySem.F.args_list_mul_2 _ _)
        (AutoListH.list___mul___list_int_3 l #[v] 0 x u (by simp [hfit]) (by simp; omega) (by simp [Builtin.List.listTooLong, sizeLine]; omega))
        ⟨hl, ?_⟩⟩)
  rw [hq]; exact h

theorem EvL.nil {pos : Pos} : EvL c nm X env fa A (spliced (backTo pos (starEach [] env))) vars σ [] σ := by
  intro F ρ s Q Ex w post
  exact spliced_nil (post F ρ [] s PLe.rfl (List.prefix_refl _) w .nil)
theorem EvL.cons {e : Expr} {es : List Expr} {pos : Pos} {d : D} {ds : List D} (hs : starEach (e :: es) env = (false, eval e env) :: starEach es env) (h : EvV c nm X env fa A (eval e env) vars σ d σ1)
    (hr : EvL c nm X env fa A (spliced (backTo pos (starEach es env))) vars σ1 ds σ2) : EvL c nm X env fa A (spliced (backTo pos (starEach (e :: es) env))) vars σ (d :: ds) σ2 := by
  intro F ρ s Q Ex w post
  rw [hs]
  refine spliced_cons (h F ρ s _ Ex w fun F1 ρ1 v1 s1 l1 p1 w1 r1 => hr F1 ρ1 s1 _ Ex w1 fun F2 ρ2 vs s2 l2 p2 w2 r2 => ?_)
  exact post F2 ρ2 _ s2 (l1.trans l2) (p1.trans p2) w2 (.cons (r1.mono l2 p2) r2)

theorem EvV.tup {es : List Expr} {n : Nat} {pos : Pos} {ds : List D} (h : EvL c nm X env fa A (spliced (backTo pos (starEach es env))) vars σ ds σ1) (hl : ds.length ≤ maxLen) : EvV c nm X env fa A (eval (.Tuple es n pos) env) vars σ (.tup ds) σ1 := by
  intro F ρ s Q Ex w post
  refine Tuple_ (h F ρ s _ Ex w fun F1 ρ1 vs s1 l1 p1 w1 r1 => ?_)
  refine wpAny_newTuple ?_ (by rw [r1.length]; exact size_of_maxLen hl)
  obtain ⟨F2, l2, w2, r2⟩ := w1.newTup r1
  exact post F2 ρ1 _ _ (l1.trans l2) p1 w2 r2
theorem EvV.lst {es : List Expr} {pos : Pos} {ds : List D} (h : EvL c nm X env fa A (spliced (backTo pos (starEach es env))) vars σ ds σ1) (hl : ds.length ≤ maxLen) : EvV c nm X env fa A (eval (.List es pos) env) vars σ (.lst ds) σ1 := by
  intro F ρ s Q Ex w post
  refine List_ (h F ρ s _ Ex w fun F1 ρ1 vs s1 l1 p1 w1 r1 => ?_)
  refine wpAny_newList ?_ (by rw [r1.length]; exact size_of_maxLen hl)
  obtain ⟨F2, l2, w2, r2⟩ := w1.newLst r1
  exact post F2 ρ1 _ _ (l1.trans l2) p1 w2 r2
theorem EvV.lstLoc {es : List Expr} {pos : Pos} {ds : List D} (h : EvL c nm X env fa A (spliced (backTo pos (starEach es env))) vars σ ds σ1) (hl : ds.length ≤ maxLen) : EvV c nm X env fa A (eval (.List es pos) env) vars σ (.loc σ1.length) (σ1 ++ [some (.lst ds)]) := by
  intro F ρ s Q Ex w post
  refine List_ (h F ρ s _ Ex w fun F1 ρ1 vs s1 l1 p1 w1 r1 => ?_)
  refine wpAny_newList ?_ (by rw [r1.length]; exact size_of_maxLen hl)
  have g2 := w1.g.push_list r1 0
  have hlen : ρ1.length = σ1.length := w1.g.len
  refine post F1 _ _ _ l1 (p1.trans (List.prefix_append _ _)) ((w1.keep .push).intoG g2 PLe.rfl (List.prefix_append _ _)) (.loc ⟨[], ?_⟩)
  rw [List.getElem?_append_right (by omega)]; simp [hlen]

/-- [a] * n -/
theorem EvV.rep {a b : Expr} {pos pos' : Pos} {x : D} {i : Int} (hs : starEach [a] env = (false, eval a env) :: starEach [] env) (ha : EvV c nm X env fa A (eval a env) vars σ x σ1) (hb : EvV c nm X env fa A (eval b env) vars σ1 (.int i) σ2)
    (hi : small i = true) (hl : i.toNat ≤ maxLen) : EvV c nm X env fa A (eval (.BinOp (.List [a] pos') .Mult b pos) env) vars σ (.lst (List.replicate i.toNat x)) σ2 := by
  intro F ρ s Q Ex w post
  show wpAny _ _ (eval (.List [a] pos') env >>= fun x => holding [x] (eval b env) >>= fun y => standAt pos >>= fun _ => operate [x, y] (binaryOp .Mult x y)) Q Ex s
  refine wpAny_bind (List_ ((EvL.cons (ds := []) hs ha EvL.nil) F ρ s _ Ex w fun F1 ρ1 vs s1 l1 p1 w1 r1 => ?_))
  refine wpAny_newList ?_ (by rw [r1.length]; rw [sizeLine_eq]; simp)
  cases r1 with
  | @cons v _ _ _ rv rn =>
  cases rn
  have h0 := none_at_size s1.heap
  have ho := Heap.get?_push_size s1.heap (o := { cls := .type "list", data := .seq [v].toArray }) rfl
  obtain ⟨q1, q2, q3⟩ := w1.g.fresh h0
  have l2 := upd_le (o := { cls := .type "list", data := .seq [v].toArray }) q1
  have w2 : W c nm X env fa _ ρ1 vars σ1 { s1 with heap := s1.heap.push { cls := .type "list", data := .seq [v].toArray } } :=
    (w1.keep .push).intoG ((w1.keep .push).g.freezeAt ho q1 q2 q3) l2 (List.prefix_refl _)
  refine wpAny_bind (wpAny_holding (hb _ ρ1 _ _ Ex w2 fun F3 ρ3 v3 s3 l3 p3 w3 r3 => ?_))
  refine wpAny_bind (wpAny_standAt (wpAny_operate ?_))
  cases r3 with
  | int _ t =>
  have hsm : i.natAbs < 2 ^ 62 := of_decide_eq_true hi
  have hm : i.toNat ≤ 2 ^ 20 := hl
  refine list_times (w3.g.f _ _ (l3.o _ _ upd_self)) (by omega) (by omega) hm ?_
  have rr : Rvs c.C F3 ρ3 (List.replicate i.toNat v) (List.replicate i.toNat x) := by
    have : ∀ n, Rvs c.C F3 ρ3 (List.replicate n v) (List.replicate n x) := by
      intro n
      induction n with
      | zero => exact .nil
      | succ n ih => exact .cons (rv.mono (l2.trans l3) p3) ih
    exact this _
  obtain ⟨F4, l4, w4, r4⟩ := w3.newLst rr
  exact post F4 ρ3 _ _ (((l1.trans l2).trans l3).trans l4) (p1.trans p3) w4 r4

theorem EvV.idx {a i : Expr} {pos : Pos} {x y x' d : D} (ha : EvV c nm X env fa A (eval a env) vars σ x σ1) (hi : EvV c nm X env fa A (eval i env) vars σ1 y σ2) (ex : res σ2 x = some x') (e : idxD x' y = some d)
    (hns : ∀ o v, subscripted i false o v = operate [o, v] (getItem o v)) : EvV c nm X env fa A (eval (.Subscript a i pos) env) vars σ d σ2 := by
  intro F ρ s Q Ex w post
  refine Subscript_ (ha F ρ s _ Ex w fun F1 ρ1 v1 s1 l1 p1 w1 r1 => hi F1 ρ1 s1 _ Ex w1 fun F2 ρ2 v2 s2 l2 p2 w2 r2 => ?_)
  have rx := w2.g.rd (r1.mono l2 p2) ex
  unfold idxD at e
  split at e
  · split at e
    · rename_i xs k hk
      cases r2 with
      | int _ t =>
      obtain ⟨l, vs, rfl, hl, hs⟩ := w2.g.list rx
      obtain ⟨v, q1, q2⟩ := hs.get e
      have hsm : k.natAbs < 2 ^ 62 := of_decide_eq_true hk.2
      exact tail_any hl.typeIs slot_list_getitem.lookup (wpAny_getItem_list hl hk.1 (by omega) (by simpa using q1) (post F2 ρ2 _ _ (l1.trans l2) (p1.trans p2) w2 q2)) (hns _ _)
    · cases e
  · split at e
    · rename_i xs k hk
      cases r2 with
      | int _ t =>
      obtain ⟨l, vs, rfl, hl, hs⟩ := w2.g.tuple rx
      obtain ⟨v, q1, q2⟩ := hs.get e
      have hsm : k.natAbs < 2 ^ 62 := of_decide_eq_true hk.2
      have hlt : k.toNat < vs.length := (List.getElem?_eq_some_iff.mp q1).1
      have ht : IsTup s2.heap l vs.toArray := hl
      exact tail_any ht.typeIs slot_tuple_getitem.lookup (PyProof.Rows.getItem_tuple ht (by omega) (by omega) (seqIndex_of hk.1 (by simp; omega)) (by simpa using q1) (post F2 ρ2 _ _ (l1.trans l2) (p1.trans p2) w2 q2)) (hns _ _)
    · cases e
  · cases e

/-- a part of a slice -/
def EvO (c : Cx) (nm : Nm) (X : PMap) (env : Env) (fa : List (Option Addr)) (A : Around) (t : Sem Value) (vars : Vars) (σ : Sto) (o : Option Int) (σ' : Sto) : Prop :=
  ∀ F ρ s Q Ex, W c nm X env fa F ρ vars σ s → (∀ F' ρ' v s', PLe F F' → ρ <+: ρ' → W c nm X env fa F' ρ' vars σ' s' → IsPart v o → Q v s') → wpAny (model c.prog c.w) A t Q Ex s
theorem EvO.none : EvO c nm X env fa A (evalPart none env) vars σ none σ := fun F ρ s Q Ex w post => wpAny_pure (post F ρ _ s PLe.rfl (List.prefix_refl _) w .none)
theorem EvO.some {e : Expr} {i : Int} (h : EvV c nm X env fa A (eval e env) vars σ (.int i) σ1) : EvO c nm X env fa A (evalPart (some e) env) vars σ (some i) σ1 := fun F ρ s Q Ex w post =>
  h F ρ s _ Ex w fun F1 ρ1 v1 s1 l1 p1 w1 r1 => by
    cases r1 with
    | int _ t => exact post F1 ρ1 _ s1 l1 p1 w1 (.int _ _)

theorem Rvs.pick {F : FM} {ρ : List (List Addr)} {vs : List Value} {xs : List D} (h : Rvs c.C F ρ vs xs) : ∀ is : List Nat, Rvs c.C F ρ (is.filterMap (vs.toArray[·]?)) (is.filterMap (xs[·]?))
  | [] => .nil
  | i :: is => by
    have ih := Rvs.pick h is
    rw [List.filterMap_cons, List.filterMap_cons]
    cases e : xs[i]? with
    | none =>
      have : vs[i]? = none := by rw [List.getElem?_eq_none_iff] at e ⊢; rw [h.length]; exact e
      simp only [List.getElem?_toArray, this]
      simpa using ih
    | some x =>
      obtain ⟨v, q1, q2⟩ := h.get e
      simp only [List.getElem?_toArray, q1]
      exact .cons q2 (by simpa using ih)

theorem EvV.sli {a : Expr} {l u st : Option Expr} {p pos : Pos} {x x' d : D} {lo hi sp : Option Int} (ha : EvV c nm X env fa A (eval a env) vars σ x σ1) (h1 : EvO c nm X env fa A (evalPart l env) vars σ1 lo σ2) (h2 : EvO c nm X env fa A (evalPart u env) vars σ2 hi σ3)
    (h3 : EvO c nm X env fa A (evalPart st env) vars σ3 sp σ4) (ex : res σ4 x = some x') (e : sliD x' lo hi sp = some d) : EvV c nm X env fa A (eval (.Subscript a (.Slice l u st p) pos) env) vars σ d σ4 := by
  intro F ρ s Q Ex w post
  refine Subscript_ (ha F ρ s _ Ex w fun F1 ρ1 v1 s1 l1 p1 w1 r1 => wpAny_Slice (h1 F1 ρ1 s1 _ Ex w1 fun F2 ρ2 v2 s2 l2 p2 w2 r2 => h2 F2 ρ2 s2 _ Ex w2 fun F3 ρ3 v3 s3 l3 p3 w3 r3 => h3 F3 ρ3 s3 _ Ex w3 fun F4 ρ4 v4 s4 l4 p4 w4 r4 => ?_))
  have rx := w4.g.rd ((r1.mono l2 p2).mono (l3.trans l4) (p3.trans p4)) ex
  unfold sliD at e
  split at e
  · rename_i xs
    split at e
    · rename_i hc
      cases e
      obtain ⟨a', vs, rfl, hl, hs⟩ := w4.g.list rx
      have w5 := w4.keep (.push (o := { cls := .type "slice", data := .fields #[v2, v3, v4] }))
      have hl5 := hl.push { cls := .type "slice", data := .fields #[v2, v3, v4] }
      have hsub : ∃ ops, subscripted (.Slice l u st p) false (.ref a') (.ref s4.heap.objs.size) = operate ops (getItem (.ref a') (.ref s4.heap.objs.size)) := by cases st <;> exact ⟨_, rfl⟩
      obtain ⟨ops, hsub⟩ := hsub
      refine tail_any hl5.typeIs slot_list_getitem.lookup (wpAny_getItem_list_slice hl5 (Heap.IsSliceOf.new ..) r2 r3 r4 hc.2 ?_ (by simp [hs.length]; exact size_of_maxLen hc.1)) hsub
      have hpk := Rvs.pick (hs.mono PLe.rfl (List.prefix_refl _)) (sliceRange (sliceBounds lo hi sp xs.length).1 (sliceBounds lo hi sp xs.length).2.1 (sliceBounds lo hi sp xs.length).2.2)
      obtain ⟨F6, l6, w6, r6⟩ := w5.newLst hpk
      have hsz : vs.toArray.size = xs.length := by simp [hs.length]
      unfold slicePick
      rw [hsz]
      exact post F6 ρ4 _ _ ((((l1.trans l2).trans l3).trans l4).trans l6) (((p1.trans p2).trans p3).trans p4) w6 r6
    · cases e
  · cases e
end
end Ev
end
section
set_option maxRecDepth 100000
set_option autoImplicit false
set_option linter.all false
namespace Ev
open PySem PySem.W PySem.Calls PyProof.Rows PySem.SeqAt

structure ClsOk (c : Cx) : Prop where
  hasDict : hasDictIn c.K c.C = true
  attr : ∀ k, k < 5 → plainGet c.K c.C (attrName k) = true ∧ ∃ a, findIn c.K (.ref c.C) (attrName k) = some a ∧ noGet c.K a = true

theorem attrName_inj : ∀ i, i < 5 → ∀ j, j < 5 → (attrName i == attrName j) = (i == j) := by decide +kernel
theorem attrIdx_name {y : Str} {k : Nat} (e : attrIdx y = some k) : y = attrName k ∧ k < 5 := by
  unfold attrIdx at e
  repeat (split at e; · rename_i h; cases e; exact ⟨eq_of_beq h, by decide⟩)
  cases e

section
variable {c : Cx} {nm : Nm} {X : PMap} {fa : List (Option Addr)} {σ σ' σ1 σ2 σ3 σ4 : Sto} {env : Env} {vars : Vars} {A : Around} {F : FM} {ρ : List (List Addr)} {s : Shared}

theorem Ra.norefs {es : List DictEntry} {as : List (Nat × D)} (h : Ra c.C F ρ es as) : es.any (·.refKey) = false := by
  induction as generalizing es with
  | nil => cases h; rfl
  | cons a as ih =>
    cases h with
    | cons hk hv hs => rw [List.any_cons, ih hs]; rfl
theorem Ra.get : ∀ {es : List DictEntry} {as : List (Nat × D)} {k : Nat} {d : D}, k < 5 → Ra c.C F ρ es as → as.lookup k = some d → ∃ v, getL (attrName k) es = some (some v) ∧ Rv c.C F ρ v d
  | _, [], k, d, _, _, e => by simp at e
  | _, (j, x) :: as, k, d, hk5, h, e => by
    cases h with
    | @cons hs t v _ _ es _ hk hv hr =>
      unfold getL
      rw [List.find?_cons]
      have hb : (Value.str (attrName j) t).isStr (attrName k) = (j == k) := attrName_inj j hk k hk5
      cases hjk : j == k with
      | true =>
        have : j = k := by simpa using hjk
        subst this
        rw [List.lookup_cons, beq_self_eq_true] at e
        cases e
        rw [hb, hjk]
        exact ⟨v, rfl, hv⟩
      | false =>
        have hkj : (k == j) = false := by rw [beq_eq_false_iff_ne] at hjk ⊢; exact fun q => hjk q.symm
        rw [List.lookup_cons, hkj] at e
        obtain ⟨u, q1, q2⟩ := Ra.get hk5 hr e
        refine ⟨u, ?_, q2⟩
        rw [hb, hjk]
        unfold getL at q1
        dsimp only
        cases hf : es.find? (·.key.isStr (attrName k)) with
        | none =>
          rw [hf] at q1
          dsimp only at q1
          split at q1 <;> cases q1
        | some en => rw [hf] at q1; exact q1
theorem Ra.miss : ∀ {es : List DictEntry} {as : List (Nat × D)} {x : Str}, Ra c.C F ρ es as → (∀ k, k < 5 → (attrName k == x) = false) → getL x es = some none
  | _, [], x, h, _ => by cases h; rfl
  | _, (j, y) :: as, x, h, hx => by
    cases h with
    | @cons hs t v _ _ es _ hk hv hr =>
      have ih := Ra.miss hr hx
      unfold getL at ih ⊢
      rw [List.find?_cons]
      have hb : (Value.str (attrName j) t).isStr x = false := hx j hk
      rw [hb]
      dsimp only
      cases hf : es.find? (·.key.isStr x) with
      | none =>
        rw [hf] at ih
        dsimp only at ih
        have : (List.any (⟨hs, .str (attrName j) t, v⟩ :: es) fun x => x.refKey) = es.any (·.refKey) := rfl
        rw [this]; exact ih
      | some en => rw [hf] at ih; exact ih

theorem attrBase {e : Expr} {y : Str} {whole : Sem Value} (h : plainBase e = true) : attributeBase e y env whole = whole := by
  unfold attributeBase
  split
  · simp [plainBase] at h
  · rfl

/-- the attributes of an instance, frozen or live -/
def attrsOf (σ : Sto) : D → Option (List (Nat × D))
  | .inst as => some as
  | .loc l => match σ[l]? with
    | some (some (.inst as)) => some as
    | _ => none
  | _ => none
theorem G.inst {x : D} {v : Value} {as : List (Nat × D)} (g : G c F X fa ρ σ s) (r : Rv c.C F ρ v x) (e : attrsOf σ x = some as) :
    ∃ a d es n, v = .ref a ∧ s.heap.get? a = some (instObj c.C d) ∧ s.heap.get? d = some (dictOf es n) ∧ Ra c.C F ρ es as := by
  cases r with
  | inst ho hd hs => simp [attrsOf] at e; subst e; exact ⟨_, _, _, _, rfl, g.f _ _ ho, g.f _ _ hd, hs⟩
  | @loc a l hl =>
    simp only [attrsOf] at e
    cases hx : σ[l]? with
    | none => rw [hx] at e; cases e
    | some m => cases m with
      | none => rw [hx] at e; cases e
      | some m => cases m with
        | lst xs => rw [hx] at e; cases e
        | inst as' =>
          rw [hx] at e; cases e
          obtain ⟨r, h1, h2⟩ := g.objs l _ hx
          obtain ⟨r', hl⟩ := hl
          rw [h1] at hl; cases hl
          cases h2 with
          | inst ho hd hs => exact ⟨_, _, _, _, rfl, ho, hd, hs⟩
  | _ => simp [attrsOf] at e

theorem G.K (Z : Bas c) (g : G c F X fa ρ σ s) : c.K.In s.heap := Z.K.keeps fun b o e => g.f b o (g.base b o e)

theorem EvV.attr {a : Expr} {y : Str} {pos : Pos} {x d : D} {as : List (Nat × D)} {k : Nat} (Z : Bas c) (C : ClsOk c) (hb : plainBase a = true) (ha : EvV c nm X env fa A (eval a env) vars σ x σ1) (ea : attrsOf σ1 x = some as)
    (hk : attrIdx y = some k) (e : as.lookup k = some d) : EvV c nm X env fa A (eval (.Attribute a y pos) env) vars σ d σ1 := by
  intro F ρ s Q Ex w post
  have he : eval (.Attribute a y pos) env = (do
      let o ← attributeBase a y env (eval a env)
      standAt pos.atName
      let r ← holding [o] (getAttr o y true)
      letTemporaryGo a o r
      pure r) := rfl
  rw [he, attrBase hb]
  refine wpAny_bind (ha F ρ s _ Ex w fun F1 ρ1 v1 s1 l1 p1 w1 r1 => wpAny_bind (wpAny_standAt (wpAny_bind (wpAny_holding ?_))))
  obtain ⟨b, dd, es, n, rfl, h1, h2, h3⟩ := w1.g.inst r1 ea
  obtain ⟨rfl, hk5⟩ := attrIdx_name hk
  obtain ⟨v, q1, q2⟩ := h3.get hk5 e
  obtain ⟨hg, at', hf, hn⟩ := C.attr k hk5
  have I : InstAt s1.heap b (instObj c.C dd) c.C (some (dictOf es n)) := ⟨h1, rfl, rfl, h2⟩
  have hh : handedIn v = true := by cases q2 <;> rfl
  refine get_value (w1.g.K Z) I (plainGet_of hg).1 (findObj_own C.hasDict hf hn (by rw [lookIn_dict]; exact q1)) hh ?_
  refine wpAny_bind (wpAny_letTemporaryGo (wpAny_pure ?_))
  exact post F1 ρ1 v _ l1 p1 (w1.keep .tok) q2
end
end Ev
end
section
set_option maxRecDepth 100000
set_option autoImplicit false
set_option linter.all false
namespace Ev
open PySem PySem.W PySem.Calls PyProof.Rows PySem.SeqAt

section
variable {c : Cx} {nm : Nm} {X : PMap} {fa : List (Option Addr)} {σ σ' σ1 σ2 σ3 σ4 : Sto} {env : Env} {vars : Vars} {A : Around} {F : FM} {ρ : List (List Addr)} {s : Shared}
variable {M : Model} {E : Value → Shared → Prop}

theorem evalArgs_ns {f : Value} {args : List (Bool × Sem Value)} {Q : Args → Shared → Prop} (hns : args.all (!·.1) = true) (h : wpAny M A (spliced args) (fun vs s₁ => Q ⟨vs, []⟩ s₁) E s) : wpAny M A (evalArgs f true args []) Q E s := by
  cases args with
  | nil => exact fun Γ p hΓ => h Γ p hΓ
  | cons a r =>
    obtain ⟨b, t⟩ := a
    cases b with
    | true => simp at hns
    | false => exact evalArgs_plain h

theorem backTo_ns {args : List (Bool × Sem Value)} {pos : Pos} (h : args.all (!·.1) = true) : (backTo pos args).all (!·.1) = true ∧ (backTo pos args).any (·.1) = false := by
  unfold backTo
  constructor
  · rw [List.all_map]; exact h
  · rw [List.any_map]
    rw [List.any_eq_false]
    intro x hx
    have := List.all_eq_true.mp h x hx
    simpa using this

theorem MCall {o : Expr} {m : Str} {apos pos : Pos} {args : List Expr} {Q : Value → Shared → Prop} (hb : plainBase o = true) (hp : (apos.endLine == pos.line) = true) (hn : args.length < 29) (hns : (starEach args env).all (!·.1) = true)
    (h : wpAny M A (eval o env) (fun ov s₁ => ∀ pl : Sem Bool, wpAny M A (getMethod ov m pl) (fun fx s₂ => wpAny M A (callWith pos fx.1 fx.2 (backTo pos (starEach args env)) []) Q E s₂) E s₁) E s) :
    wpAny M A (eval (.Call (.Attribute o m apos) args [] pos) env) Q E s := by
  show wpAny _ _ (attributeBase o m env (eval o env) >>= fun ov => standAt apos.atName >>= fun _ => methodCall o m apos pos env ov (args.length + 0) (backTo pos (starEach args env)) (backToKw pos (keywordEach [] env))) Q E s
  rw [attrBase hb]
  refine wpAny_bind (wpAny_mono h (fun ov s₁ h₁ => wpAny_bind (wpAny_standAt ?_)) fun _ _ e => e)
  have hform : methodCallForm (args.length + 0) (backTo pos (starEach args env)) (backToKw pos (keywordEach [] env)) = true := by
    unfold methodCallForm
    rw [(backTo_ns hns).1]
    have : keywordEach [] env = [] := rfl
    rw [this]
    simp [backToKw]; omega
  unfold methodCall
  rw [hform]
  refine wpAny_bind (wpAny_holding ?_)
  show wpAny _ _ (getMethod ov m (do return (← importBound o env).getD true)) _ _ _
  refine wpAny_mono (h₁ _) (fun fx s₂ h₂ => ?_) fun _ _ e => e
  obtain ⟨f, first⟩ := fx
  show wpAny _ _ (methodCallPos true o env apos pos >>= fun p => callWith p f first (backTo pos (starEach args env)) (backToKw pos (keywordEach [] env))) _ _ _
  have : methodCallPos true o env apos pos = pure pos := by unfold methodCallPos; simp [hp]
  rw [this]
  exact wpAny_bind (wpAny_pure h₂)

/-- the arguments, then the call of a built-in -/
theorem CallB {id : String} {pos pos' : Pos} {first : List Value} {args : List Expr} {Q : Value → Shared → Prop} (hns : (starEach args env).all (!·.1) = true)
    (h : wpAny M A (spliced (backTo pos (starEach args env))) (fun vs s₁ => wpAny M A (call (.builtin id) (first ++ vs)) Q E s₁) E s) : wpAny M A (callWith pos' (.builtin id) first (backTo pos (starEach args env)) []) Q E s :=
  callWith_builtin (backTo_ns hns).2 (evalArgs_ns (backTo_ns hns).1 h)
theorem CallT {T : String} {pos pos' : Pos} {first : List Value} {args : List Expr} {Q : Value → Shared → Prop} (hns : (starEach args env).all (!·.1) = true)
    (h : wpAny M A (spliced (backTo pos (starEach args env))) (fun vs s₁ => wpAny M A (call (.type T) (first ++ vs)) Q E s₁) E s) : wpAny M A (callWith pos' (.type T) first (backTo pos (starEach args env)) []) Q E s := by
  first
    | exact PySem.callWith_type (backTo_ns hns).2 (evalArgs_ns (backTo_ns hns).1 h)
    | exact PyProof.Rows.callWith_type (backTo_ns hns).2 (evalArgs_ns (backTo_ns hns).1 h)
theorem CallF {f : Value} {pos pos' : Pos} {first : List Value} {args : List Expr} {Q : Value → Shared → Prop} (hk : keepIn c.K f = true) (hns : (starEach args env).all (!·.1) = true)
    (h : wpAny M A (spliced (backTo pos (starEach args env))) (fun vs s₁ => c.K.In s₁.heap ∧ wpAny M A (call f (first ++ vs)) Q E s₁) E s) : wpAny M A (callWith pos' f first (backTo pos (starEach args env)) []) Q E s :=
  callWith_of (by rw [(backTo_ns hns).2]; rfl) (keeps_K hk) (evalArgs_ns (backTo_ns hns).1 h)

/-- a live list -/
theorem G.live {v : Value} {l : Nat} {xs : List D} (g : G c F X fa ρ σ s) (r : Rv c.C F ρ v (.loc l)) (e : σ[l]? = some (some (.lst xs))) :
    ∃ a vs n, v = .ref a ∧ ρ[l]? = some [a] ∧ s.heap.get? a = some { cls := .type "list", data := .seq vs.toArray n } ∧ Rvs c.C F ρ vs xs := by
  cases r with
  | @loc a l hl =>
    obtain ⟨r, h1, h2⟩ := g.objs l _ e
    obtain ⟨r', hl⟩ := hl
    rw [h1] at hl; cases hl
    cases h2 with
    | lst ho hs => exact ⟨_, _, _, rfl, h1, ho, hs⟩

theorem W.turn {l : Nat} {m m' : MObj} {r : List Addr} {h' : Heap} {tk : Nat} (w : W c nm X env fa F ρ vars σ s) (hl : σ[l]? = some (some m)) (hr : ρ[l]? = some r)
    (hk : ∀ b o, b ∉ r → s.heap.get? b = some o → h'.get? b = some o) (hm : ObjR c.C F ρ h' r m') (ha : ∀ a ∈ r, ∃ o, h'.get? a = some o) (ht : s.toks ≤ tk) : W c nm X env fa F ρ vars (σ.set l (some m')) { s with heap := h', toks := tk } := by
  refine ⟨w.g.turn hl hr hk hm ha ht, w.f.to PLe.rfl (List.prefix_refl _) fun i a o hi ho => hk a o (fun hin => ?_) ho⟩
  have := w.g.apart (.fr i) (.loc l) a trivial ⟨m, hl⟩ (adrs_fr.mpr hi) (by rw [adrs_loc hr]; exact hin)
  cases this

theorem getLM {M : Model} {E : Value → Shared → Prop} {a : Addr} {vs : Array Value} {n : Nat} {name : Str} {id : String} {pl : Sem Bool} {Q : Value × List Value → Shared → Prop} (slot : Slot "list" name id) (hty : typeOf (.builtin id) = pure (.type "method_descriptor"))
    (ho : s.heap.get? a = some { cls := .type "list", data := .seq vs n }) (h : Q (.builtin id, [.ref a]) s) : wpAny M A (getMethod (.ref a) name pl) Q E s :=
  getMethod_builtin ⟨_, ho, rfl⟩ PySem.F.plainAttrs_list slot hty (fun b e => by cases e; exact ⟨_, ho, rfl⟩) h

theorem isLst_get {x : D} (h : isLst σ x = true) : ∃ l xs, x = .loc l ∧ σ[l]? = some (some (.lst xs)) := by
  unfold isLst at h
  split at h
  · split at h
    · rename_i l _ xs e; exact ⟨l, xs, rfl, e⟩
    · cases h
  · cases h

theorem EvV.append {o a : Expr} {apos pos : Pos} {l : Nat} {y : D} {xs : List D} (hb : plainBase o = true) (hp : (apos.endLine == pos.line) = true) (hs1 : starEach [a] env = (false, eval a env) :: starEach [] env)
    (ho : EvV c nm X env fa A (eval o env) vars σ (.loc l) σ1) (hl1 : isLst σ1 (.loc l) = true) (ha : EvV c nm X env fa A (eval a env) vars σ1 y σ2) (hl : σ2[l]? = some (some (.lst xs))) (hz : xs.length < maxLen) :
    EvV c nm X env fa A (eval (.Call (.Attribute o ("append" : Str) apos) [a] [] pos) env) vars σ .none (σ2.set l (some (.lst (xs ++ [y])))) := by
  intro F ρ s Q Ex w post
  have hns : (starEach [a] env).all (!·.1) = true := by rw [hs1]; rfl
  refine MCall hb hp (by simp) hns (ho F ρ s _ Ex w fun F1 ρ1 v1 s1 l1 p1 w1 r1 => fun pl => ?_)
  obtain ⟨l', xs1, e1, e2⟩ := isLst_get hl1
  cases e1
  obtain ⟨b, vs1, n1, rfl, q1, q2, q3⟩ := w1.g.live r1 e2
  refine getLM slot_list_append PySem.F.type_list_append q2 ?_
  refine CallB hns ((EvL.cons (ds := []) hs1 ha EvL.nil) F1 ρ1 s1 _ Ex w1 fun F2 ρ2 vs s2 l2 p2 w2 r2 => ?_)
  cases r2 with
  | @cons u _ _ _ ru rn =>
  cases rn
  obtain ⟨b', vs2, n2, hbb, k1, k2, k3⟩ := w2.g.live (r1.mono l2 p2) hl
  cases hbb
  refine wpAny_list_append_plain ⟨n2, k2⟩ (fun h' hpl hs' => ?_) (by rw [List.size_toArray, k3.length]; exact size_of_maxLen (by omega))
  obtain ⟨n3, hpl⟩ := hpl
  have hpl' : h'.get? b = some { cls := .type "list", data := .seq (vs2 ++ [u]).toArray n3 } := by rw [hpl]; simp
  refine post F2 ρ2 _ _ (l1.trans l2) (p1.trans p2) (w2.turn (tk := s2.toks) hl k1 (fun d o hd e => (hs'.2 d (by simpa using hd)).trans e) (.lst hpl' (k3.append (.cons ru .nil))) (fun d hd => by simp at hd; subst hd; exact ⟨_, hpl⟩) (Nat.le_refl _)) .none

theorem EvV.pop {o : Expr} {apos pos : Pos} {l : Nat} {y : D} {xs : List D} (hb : plainBase o = true) (hp : (apos.endLine == pos.line) = true)
    (ho : EvV c nm X env fa A (eval o env) vars σ (.loc l) σ1) (hl : σ1[l]? = some (some (.lst xs))) (hz : xs.length ≤ maxLen) (hy : xs.getLast? = some y) :
    EvV c nm X env fa A (eval (.Call (.Attribute o ("pop" : Str) apos) [] [] pos) env) vars σ y (σ1.set l (some (.lst xs.dropLast))) := by
  intro F ρ s Q Ex w post
  refine MCall hb hp (by simp) rfl (ho F ρ s _ Ex w fun F1 ρ1 v1 s1 l1 p1 w1 r1 => fun pl => ?_)
  obtain ⟨b, vs1, n1, rfl, q1, q2, q3⟩ := w1.g.live r1 hl
  refine getLM PySem.F.slot_list_pop PySem.F.type_list_pop q2 ?_
  refine CallB rfl (args_nil ?_)
  have hlen : vs1.length = xs.length := q3.length
  have hne : xs ≠ [] := fun e => by subst e; simp at hy
  have hpos : 0 < xs.length := List.length_pos_iff.mpr hne
  have hy' : xs[xs.length - 1]? = some y := by rw [← List.getLast?_eq_getElem?]; exact hy
  obtain ⟨u, hu, ru⟩ := q3.get hy'
  have hui : vs1.toArray[vs1.toArray.size - 1]? = some u := by simp [hlen, hu]
  refine call_meets PySem.F.slot_list_pop ⟨_, q2, rfl⟩ PySem.F.entry_list_pop (PySem.F.args_list_pop_1 _) (PySem.MeetsSeq.list_pop_last b vs1.toArray n1 u hui (by rw [List.size_toArray, hlen]; exact size_of_maxLen hz)) ⟨q2, ?_⟩
  have hupd : Obj.mapSeq (fun ys => ys.eraseIdxIfInBounds (vs1.toArray.size - 1)) { cls := .type "list", data := .seq vs1.toArray n1 } = { cls := .type "list", data := .seq vs1.dropLast.toArray (n1 + 1) } := by
    have e1 : vs1.toArray.eraseIdxIfInBounds (vs1.toArray.size - 1) = vs1.dropLast.toArray := by
      have hv : vs1 ≠ [] := fun e => by rw [e] at hlen; simp at hlen; omega
      have hsplit := List.dropLast_concat_getLast hv
      have hl2 : vs1.toArray.size - 1 = vs1.dropLast.length := by simp
      rw [hl2]
      conv => lhs; rw [show vs1.toArray = (vs1.dropLast ++ vs1.getLast hv :: []).toArray by rw [hsplit]]
      rw [kl_erase]; simp
    simp only [Obj.mapSeq, e1]
    have : ¬ vs1.dropLast.toArray.size = vs1.toArray.size := by simp; omega
    simp [this]
    omega
  have hget : (s1.heap.update b (Obj.mapSeq fun ys => ys.eraseIdxIfInBounds (vs1.toArray.size - 1))).get? b = some { cls := .type "list", data := .seq vs1.dropLast.toArray (n1 + 1) } := by
    rw [Heap.get?_update_self _ q2 (by rw [hupd]; rfl), hupd]
  have hdl : Rvs c.C F1 ρ1 vs1.dropLast xs.dropLast := by
    have := q3.take (xs.length - 1)
    rw [List.dropLast_eq_take, List.dropLast_eq_take, hlen]; exact this
  exact post F1 ρ1 _ _ l1 p1 (w1.turn (tk := s1.toks) hl q1 (fun d o hd e => (Heap.get?_update_other _ _ (fun q => hd (by simp [q]))).trans e) (.lst hget hdl) (fun d hd => by simp at hd; subst hd; exact ⟨_, hget⟩) (Nat.le_refl _)) ru
end
end Ev
end
section
set_option maxRecDepth 100000
set_option autoImplicit false
set_option linter.all false
namespace Ev
open PySem PySem.W PySem.Calls PyProof.Rows PySem.SeqAt

theorem zip_lookup : ∀ {ns : List Str} {vs : List Value} {i : Nat} {x : Str}, ns.Nodup → ns.length = vs.length → ns[i]? = some x → (ns.zip vs).lookup x = vs[i]?
  | [], _, i, x, _, _, e => by simp at e
  | n :: ns, [], _, _, _, hl, _ => by simp at hl
  | n :: ns, v :: vs, 0, x, _, _, e => by simp at e; subst e; simp [List.lookup_cons]
  | n :: ns, v :: vs, i + 1, x, nd, hl, e => by
    simp only [List.nodup_cons] at nd
    have e' : ns[i]? = some x := by simpa using e
    have hne : (x == n) = false := by
      rw [beq_eq_false_iff_ne]; intro q; subst q; exact nd.1 (List.mem_of_getElem? e')
    rw [List.zip_cons_cons, List.lookup_cons, hne]
    simpa using zip_lookup nd.2 (by simpa using hl) e'

theorem zip_self : ∀ {ns : List Str} {vs : List Value} {t : List (Str × Value)}, ns.Nodup → ns.length = vs.length → (∀ n ∈ ns, t.lookup n = (ns.zip vs).lookup n) → (ns.filterMap fun n => (t.lookup n).map (n, ·)) = ns.zip vs
  | [], _, _, _, _, _ => rfl
  | n :: ns, [], _, _, hl, _ => by simp at hl
  | n :: ns, v :: vs, t, nd, hl, ht => by
    have h0 := ht n (by simp)
    simp only [List.nodup_cons] at nd
    rw [List.zip_cons_cons, List.lookup_cons, beq_self_eq_true] at h0
    rw [List.filterMap_cons, h0, List.zip_cons_cons]
    dsimp only [Option.map_some]
    congr 1
    refine zip_self nd.2 (by simpa using hl) fun m hm => ?_
    rw [ht m (by simp [hm]), List.zip_cons_cons, List.lookup_cons]
    have : (m == n) = false := by rw [beq_eq_false_iff_ne]; intro q; subst q; exact nd.1 hm
    rw [this]

theorem bindsPlain {fd : FuncData} {as : List Arg} {vs : List Value} {s : Shared} (hp : fd.params = ⟨[], as, none, [], [], none, []⟩) (hd : fd.defaults = .none) (nd : (as.map (·.arg)).Nodup) (hl : vs.length = as.length) :
    BindsTo s fd ⟨vs, []⟩ ((as.map (·.arg)).zip vs) := by
  intro M A E Q hq
  have hl' : (as.map (·.arg)).length = vs.length := by simp [hl]
  have miss : List.filter (fun n => (List.lookup n ((as.map (·.arg)).zip vs)).isNone) ((as.map (·.arg)).take ((as.map (·.arg)).length - 0)) = [] := by
    rw [List.filter_eq_nil_iff]
    intro n hn
    have hn' := List.mem_of_mem_take hn
    obtain ⟨i, hi, he⟩ := List.mem_iff_getElem.mp hn'
    have := zip_lookup (vs := vs) nd hl' (List.getElem?_eq_some_iff.mpr ⟨hi, he⟩)
    rw [this, List.getElem?_eq_getElem (by omega)]
    simp
  have hzip := zip_self (t := (as.map (·.arg)).zip vs) nd hl' fun _ _ => rfl
  unfold bindArgs
  simp only [hp, hd, List.map_nil, List.nil_append, List.append_nil]
  rw [List.forIn_nil]
  refine wpAny_bind (wpAny_pure ?_)
  have hs : seqItems? Value.none = pure none := rfl
  rw [hs]
  refine wpAny_bind (wpAny_pure ?_)
  have hgt : ¬ vs.length > (as.map (·.arg)).length := by omega
  simp only [Option.getD_none, List.length_nil, List.drop_nil, Nat.zero_sub, miss, List.zip_nil_right, List.forIn_nil, hgt, decide_false, Bool.false_and, Bool.false_eq_true, if_false, List.isEmpty_nil, Bool.not_true]
  refine wpAny_bind (wpAny_pure (wpAny_bind (wpAny_pure ?_)))
  simp only [List.isEmpty_nil, Bool.not_true, Bool.false_eq_true, if_false, List.append_nil, hzip]
  exact wpAny_pure hq
end Ev
end
section
set_option maxRecDepth 100000
set_option autoImplicit false
set_option linter.all false
namespace Ev
open PySem PySem.W PySem.Calls PyProof.Rows PySem.SeqAt

theorem bindL_miss {ko : Str → Option NameKind} : ∀ {bs : List (Str × Value)} {m : Str → Option Value} {x : Str}, (∀ b ∈ bs, b.1 ≠ x) → bindL ko bs m x = m x
  | [], _, _, _ => rfl
  | (n, v) :: r, m, x, h => by
    unfold bindL
    rw [bindL_miss fun b hb => h b (by simp [hb])]
    have : x ≠ n := fun q => h (n, v) (by simp) q.symm
    split
    · simp [this]
    · rfl
theorem bindL_hit {ko : Str → Option NameKind} : ∀ {bs : List (Str × Value)} {m : Str → Option Value} {x : Str} {v : Value} {i : Nat}, (bs.map (·.1)).Nodup → bs[i]? = some (x, v) → ko x = some .local → bindL ko bs m x = some v
  | [], _, _, _, i, _, e, _ => by simp at e
  | (n, u) :: r, m, x, v, 0, nd, e, hk => by
    simp at e; obtain ⟨rfl, rfl⟩ := e
    simp only [List.map_cons, List.nodup_cons] at nd
    unfold bindL
    rw [bindL_miss fun b hb q => nd.1 (by rw [← q]; exact List.mem_map_of_mem hb), if_pos hk]
    simp
  | (n, u) :: r, m, x, v, i + 1, nd, e, hk => by
    simp only [List.map_cons, List.nodup_cons] at nd
    unfold bindL
    exact bindL_hit nd.2 (by simpa using e) hk
theorem bindC_miss {ko : Str → Option NameKind} : ∀ {bs : List (Str × Value)} {m : Str → Option Value} {x : Str}, (∀ b ∈ bs, b.1 ≠ x) → bindC ko bs m x = m x
  | [], _, _, _ => rfl
  | (n, v) :: r, m, x, h => by
    unfold bindC
    rw [bindC_miss fun b hb => h b (by simp [hb])]
    have : x ≠ n := fun q => h (n, v) (by simp) q.symm
    split
    · rfl
    · simp [this]
theorem bindC_hit {ko : Str → Option NameKind} : ∀ {bs : List (Str × Value)} {m : Str → Option Value} {x : Str} {v : Value} {i : Nat}, (bs.map (·.1)).Nodup → bs[i]? = some (x, v) → ko x ≠ some .local → bindC ko bs m x = some v
  | [], _, _, _, i, _, e, _ => by simp at e
  | (n, u) :: r, m, x, v, 0, nd, e, hk => by
    simp at e; obtain ⟨rfl, rfl⟩ := e
    simp only [List.map_cons, List.nodup_cons] at nd
    unfold bindC
    rw [bindC_miss fun b hb q => nd.1 (by rw [← q]; exact List.mem_map_of_mem hb), if_neg hk]
    simp
  | (n, u) :: r, m, x, v, i + 1, nd, e, hk => by
    simp only [List.map_cons, List.nodup_cons] at nd
    unfold bindC
    exact bindC_hit nd.2 (by simpa using e) hk

def frAdrs (nm : Nm) (L : Addr) (cells : List (Str × Addr)) : List (Option Addr) := some L :: nm.map fun x => if x.2 == .cell then cells.lookup x.1 else none
theorem frAdrs_0 {nm : Nm} {L : Addr} {cells : List (Str × Addr)} : (frAdrs nm L cells)[0]? = some (some L) := rfl
theorem frAdrs_s {nm : Nm} {L : Addr} {cells : List (Str × Addr)} {i : Nat} {a : Addr} (h : (frAdrs nm L cells)[i + 1]? = some (some a)) : ∃ x, nm[i]? = some (x, .cell) ∧ cells.lookup x = some a := by
  simp only [frAdrs, List.getElem?_cons_succ, List.getElem?_map] at h
  cases e : nm[i]? with
  | none => rw [e] at h; simp at h
  | some p =>
    obtain ⟨x, k⟩ := p
    rw [e] at h
    simp only [Option.map_some, Option.some.injEq] at h
    split at h
    · rename_i hk
      have : k = .cell := by simpa using hk
      subst this
      exact ⟨x, rfl, h⟩
    · cases h
theorem frAdrs_at {nm : Nm} {L : Addr} {cells : List (Str × Addr)} {i : Nat} {x : Str} {a : Addr} (h : nm[i]? = some (x, .cell)) (hc : cells.lookup x = some a) : (frAdrs nm L cells)[i + 1]? = some (some a) := by
  simp only [frAdrs, List.getElem?_cons_succ, List.getElem?_map, h]
  simp [hc]

theorem none_of_ge {h : Heap} {a : Addr} (e : h.objs.size ≤ a) : h.get? a = none := by
  cases q : h.get? a with
  | none => rfl
  | some o => exact absurd (Heap.lt_size q) (Nat.not_lt.mpr e)

theorem startVars_len {fn : Fn} {ds : List D} (h1 : ds.length = fn.np) (h2 : fn.np ≤ fn.nv) : (startVars fn ds).length = fn.nv := by simp [startVars]; omega
theorem startVars_get {fn : Fn} {ds : List D} {i : Nat} {d : D} (h1 : ds.length = fn.np) (h : (startVars fn ds)[i]? = some (some d)) : ds[i]? = some d := by
  unfold startVars at h
  by_cases hi : i < ds.length
  · rw [List.getElem?_append_left (by simpa using hi)] at h
    simpa using h
  · rw [List.getElem?_append_right (by simpa using hi)] at h
    rw [List.getElem?_replicate] at h
    split at h <;> cases h

structure FnOk (C : Cc) (fd : FuncData) (fn : Fn) (as : List Arg) (bd : List Stmt) : Prop where
  params : fd.params = ⟨[], as, none, [], [], none, []⟩
  body : fd.body = .stmts bd
  globals : fd.globals = mainGlobals
  builtins : fd.builtins = builtinsNs
  closure : fd.closure = []
  defaults : fd.defaults = .none
  gen : fd.scope.isGenerator = false
  cor : fd.scope.isCoroutine = false
  kind : fd.scope.kind = .function
  nd : (fd.scope.names.map (·.1)).Nodup
  take : (fd.scope.names.map (·.1)).take as.length = as.map (·.arg)
  pk : ∀ (i : Nat) x k, i < as.length → fd.scope.names[i]? = some (x, k) → k = .local ∨ k = .cell
  nofree : ∀ x ∈ fd.scope.names, x.2 ≠ .free ∧ x.2 ≠ .globalExplicit
  comp : compSs C 200 fd.scope.names bd = some fn.body
  nv : fn.nv = fd.scope.names.length
  np : fn.np = as.length

theorem fnOk_inv {C : Cc} {fd : FuncData} {fn : Fn} (h : fnOk C fd = some fn) : ∃ as body, FnOk C fd fn as body := by
  unfold fnOk at h
  split at h
  · rename_i n q as body sc g b doc pm an cd ct
    split at h
    · rename_i hc
      simp only [Bool.and_eq_true, Bool.not_eq_true', beq_iff_eq, decide_eq_true_eq] at hc
      obtain ⟨⟨⟨⟨⟨⟨⟨⟨h1, h2⟩, h3⟩, h4⟩, h5⟩, h6⟩, h7⟩, h8⟩, h9⟩ := hc
      obtain ⟨b', hb, rfl⟩ := Option.map_eq_some_iff.mp h
      refine ⟨as, body, ⟨rfl, rfl, h1, h2, rfl, rfl, h3, h4, h5, h6, h7, ?_, ?_, hb, rfl, rfl⟩⟩
      · intro i x k hi e
        have hm : (x, k) ∈ sc.names.take as.length := List.mem_of_getElem? (i := i) (by rw [List.getElem?_take_of_lt hi]; exact e)
        have := List.all_eq_true.mp h8 _ hm
        simpa using this
      · intro x hx
        have := List.all_eq_true.mp h9 x hx
        simpa using this
    · cases h
  · cases h

section
variable {c : Cx} {F : FM} {X : PMap} {ρ : List (List Addr)} {σ : Sto} {s : Shared} {A : Around}

theorem enterFn {C : Cc} {fd : FuncData} {fn : Fn} {as : List Arg} {body : List Stmt} {f : Addr} {fo : Obj} {vs : List Value} {ds : List D} {R : Result → Shared → Prop}
    (hfn : FnOk C fd fn as body) (Z : Bas c) (g : G c F X [] ρ σ s) (ho : s.heap.get? f = some fo) (hdt : fo.data = .func fd) (hcd : s.heap.CodeRec fd.code fd.qualname) (hnl : s.heap.NoLimit)
    (hroom : A.depth < recursionLimit) (rv : Rvs c.C F ρ vs ds) (hlen : ds.length = fn.np)
    (h : ∀ env fa s', env.scope = fd.scope → W c fd.scope.names X env fa F ρ (startVars fn ds) σ s' →
      wpAny (model c.prog c.w) (A.deeper env) (execs body env) (fun fl s'' => R (.ok (.ret (match fl with | .ret v => v | _ => .none))) s'')
        (fun e s'' => wpAny (model c.prog c.w) (A.deeper env) (leaving env e) (fun _ s3 => R (.error e) s3) (fun e' s3 => R (.error e') s3) s'') s') :
    codeAny (model c.prog c.w) A (.call (.ref f) ⟨vs, []⟩) R s := by
  have hnp := hfn.np
  have hvl : vs.length = as.length := by rw [rv.length]; omega
  have hle : as.length ≤ fd.scope.names.length := by
    have := congrArg List.length hfn.take
    simp at this; omega
  have ndA : (as.map (·.arg)).Nodup := by rw [← hfn.take]; exact hfn.nd.sublist (List.take_sublist _ _)
  have hzl : (as.map (·.arg)).length = vs.length := by simp [hvl]
  -- the i-th name and the i-th bind
  have hbi : ∀ (i : Nat) x k v, fd.scope.names[i]? = some (x, k) → vs[i]? = some v → ((as.map (·.arg)).zip vs)[i]? = some (x, v) := by
    intro i x k v e1 e2
    have hi : i < as.length := by rw [← hvl]; exact (List.getElem?_eq_some_iff.mp e2).1
    rw [← hfn.take, List.getElem?_zip_eq_some]
    refine ⟨?_, e2⟩
    rw [List.getElem?_take_of_lt hi, List.getElem?_map, e1]; rfl
  have ndZ : (((as.map (·.arg)).zip vs).map (·.1)).Nodup := by rw [List.map_fst_zip (by omega)]; exact ndA
  refine codeAny_call_function hroom ho hdt hfn.cor hfn.gen hfn.body hcd ((bindsPlain hfn.params hfn.defaults ndA hvl) _ _ _ _ ?_)
  rw [hfn.closure]
  refine wpAny_with_toks (Nat.le_refl s.toks) ?_
  refine wpAny_newFunctionEnv_cells hfn.kind (fun x hx => ?_) fun env he s' y ht => ?_
  · obtain ⟨i, hi, e⟩ := List.mem_iff_getElem.mp hx
    have e' : ((as.map (·.arg)).zip vs)[i]? = some x := List.getElem?_eq_some_iff.mpr ⟨hi, e⟩
    rw [List.getElem?_zip_eq_some] at e'
    have hia : i < as.length := by have := (List.getElem?_eq_some_iff.mp e'.1).1; simpa using this
    rw [← hfn.take, List.getElem?_take_of_lt hia, List.getElem?_map] at e'
    obtain ⟨⟨z, k⟩, q1, q2⟩ := Option.map_eq_some_iff.mp e'.1
    have q2' : z = x.1 := q2
    subst q2'
    have hl := lookup_idx hfn.nd q1
    rcases hfn.pk i _ _ hia q1 with rfl | rfl
    · exact .inl hl
    · exact .inr ⟨hl, cellsFrom_some _ _ _ (.inl hl)⟩
  · obtain ⟨h', tk, rfl, hk⟩ := y.done
    have esc : env.scope = fd.scope := by rw [he]; rfl
    have eloc : env.locals = s.heap.objs.size := by rw [he]; rfl
    have ecells : env.cells = cellsFrom (s.heap.objs.size + 1) fd.scope.names [] := by rw [he]; rfl
    have ekind : ∀ x, env.kindOf x = fd.scope.names.lookup x := fun x => by unfold Env.kindOf; rw [esc]
    have ht' : s.toks ≤ tk := ht
    refine ⟨hnl.keeps hk, codeAny_func (h env (frAdrs fd.scope.names env.locals env.cells) _ esc ⟨?_, ?_⟩)⟩
    · -- G
      refine G.newFr (g.keeps (s' := { s with heap := h', toks := tk }) hk rfl rfl ht') ?_ ?_
      · intro i a e
        have ex : ∃ o, h'.get? a = some o := by
          cases i with
          | zero => rw [frAdrs_0] at e; cases e; obtain ⟨o, _, _, e, _⟩ := y.toInCall.ns; exact ⟨o, e⟩
          | succ i =>
            obtain ⟨x, e1, e2⟩ := frAdrs_s e
            obtain ⟨o, e, _⟩ := y.cell x a e2
            exact ⟨o, e⟩
        have hge : s.heap.objs.size ≤ a := by
          cases i with
          | zero => rw [frAdrs_0] at e; cases e; rw [eloc]; exact Nat.le_refl _
          | succ i =>
            obtain ⟨x, e1, e2⟩ := frAdrs_s e
            have := y.above x a (mem_of_lookup e2)
            rw [eloc] at this; exact Nat.le_of_lt this
        obtain ⟨q1, q2, q3⟩ := g.fresh (none_of_ge hge)
        exact ⟨q1, q2, q3, ex⟩
      · intro i j a e e'
        cases i with
        | zero => cases j with
          | zero => rfl
          | succ j =>
            rw [frAdrs_0] at e; cases e
            obtain ⟨x, e1, e2⟩ := frAdrs_s e'
            exact absurd (y.above x _ (mem_of_lookup e2)) (Nat.lt_irrefl _)
        | succ i => cases j with
          | zero =>
            rw [frAdrs_0] at e'; cases e'
            obtain ⟨x, e1, e2⟩ := frAdrs_s e
            exact absurd (y.above x _ (mem_of_lookup e2)) (Nat.lt_irrefl _)
          | succ j =>
            obtain ⟨x, e1, e2⟩ := frAdrs_s e
            obtain ⟨z, e3, e4⟩ := frAdrs_s e'
            have := name_of_addr y.apart (mem_of_lookup e2) (mem_of_lookup e4)
            subst this
            rw [name_idx hfn.nd e1 e3]
    · refine { kindF := by rw [esc]; exact hfn.kind, glob := by rw [he]; exact hfn.globals, bi := by rw [he]; exact hfn.builtins, nd := hfn.nd, len := by rw [startVars_len hlen (by rw [hfn.np, hfn.nv]; exact hle), hfn.nv],
               l0 := frAdrs_0, kinds := fun x k hx => ⟨fun q => by subst q; exact .inr (by rw [ekind]; exact hx), fun _ => by rw [ekind]; exact hx⟩, ns := ⟨_, y.toInCall.ns, ?_⟩, cell := ?_, free := ?_ }
      · intro i x d e1 e2
        have hd := startVars_get hlen e2
        obtain ⟨v, q1, q2⟩ := rv.get hd
        exact ⟨v, bindL_hit ndZ (hbi i x _ v e1 q1) (by rw [ekind]; exact lookup_idx hfn.nd e1), q2⟩
      · intro i x e1
        have hl := lookup_idx hfn.nd e1
        have := cellsFrom_some fd.scope.names (s.heap.objs.size + 1) [] (x := x) (.inl hl)
        obtain ⟨a, ha⟩ := Option.isSome_iff_exists.mp this
        rw [← ecells] at ha
        refine ⟨a, _, ha, frAdrs_at e1 ha, y.cell x a ha, fun d hd => ?_⟩
        have hd := startVars_get hlen hd
        obtain ⟨v, q1, q2⟩ := rv.get hd
        exact ⟨v, bindC_hit ndZ (hbi i x _ v e1 q1) (by rw [ekind, hl]; intro q; cases q), q2⟩
      · intro i x d e1 _
        exact absurd rfl (hfn.nofree _ (List.mem_of_getElem? e1)).1
end
end Ev
end
section
set_option maxRecDepth 100000
set_option autoImplicit false
set_option linter.all false
namespace Ev
open PySem PySem.W PySem.Calls PyProof.Rows PySem.SeqAt

/-- a def that reads its arguments only: what it answers -/
def PureC (c : Cx) (n : Nat) (v : Value) (sp : List D → Option D) : Prop :=
  ∀ ds d, sp ds = some d → ∀ (A : Around) F X s vs Q Ex, Good n A → G c F X [] [] [] s → Rvs c.C F [] vs ds → D.pures ds = true →
    (∀ F' r s', PLe F F' → G c F' X [] [] [] s' → Rv c.C F' [] r d → d.pure = true → Q r s') → wpAny (model c.prog c.w) A (call v vs) Q Ex s
/-- a def that turns its first argument, a list -/
def MutC (c : Cx) (n : Nat) (v : Value) (sp : List D → List D → Option (D × List D)) : Prop :=
  ∀ xs ds d ys, sp xs ds = some (d, ys) → ∀ (A : Around) F X s a vs Q Ex, Good n A → G c F X [] [[a]] [some (.lst xs)] s → Rvs c.C F [] vs ds → D.pures ds = true → D.pures xs = true →
    (∀ F' r s', PLe F F' → G c F' X [] [[a]] [some (.lst ys)] s' → Rv c.C F' [] r d → d.pure = true → D.pures ys = true → Q r s') → wpAny (model c.prog c.w) A (call v (.ref a :: vs)) Q Ex s
/-- the class -/
def NewC (c : Cx) (n : Nat) (v : Value) (sp : D → Option D) : Prop :=
  ∀ x d, sp x = some d → ∀ (A : Around) F X s u Q Ex, Good n A → G c F X [] [] [] s → Rv c.C F [] u x → x.pure = true →
    (∀ F' r s', PLe F F' → G c F' X [] [] [] s' → Rv c.C F' [] r d → d.pure = true → Q r s') → wpAny (model c.prog c.w) A (call v [u]) Q Ex s

section
variable {c : Cx} {nm : Nm} {X : PMap} {fa : List (Option Addr)} {σ σ' σ1 σ2 σ3 σ4 : Sto} {env : Env} {vars : Vars} {A : Around} {F F' : FM} {ρ : List (List Addr)} {s s' : Shared}

theorem W.unhide {fa2 : List (Option Addr)} {ρ2 : List (List Addr)} {σ2 : Sto} (w : W c nm X env fa F ρ vars σ s) (g' : G c F' (hid (ownedBy fa ρ σ) X s.heap) fa2 ρ2 σ2 s') (le : PLe F F') : W c nm X env fa F' ρ vars σ s' := by
  obtain ⟨g2, hk⟩ := w.g.unhide g' le
  exact ⟨g2, w.f.to le (List.prefix_refl _) fun i a o hi e => hk a o ⟨.fr i, trivial, adrs_fr.mpr hi⟩ e⟩

theorem isGlob_lookup {nm : Nm} {x : Str} (h : isGlob nm x = true) : nm.lookup x = some .globalImplicit ∧ (x == ("__debug__" : Str)) = false := by
  unfold isGlob at h
  split at h
  · rename_i i e
    exact ⟨nmIdx_lookup e, by simpa using h⟩
  · cases h

theorem EvV.callP {x : Str} {p pos : Pos} {args : List Expr} {v : Value} {n : Nat} {sp : List D → Option D} {ds : List D} {d : D} (Z : Bas c) (gd : Good n A) (hx : isGlob nm x = true) (hg : nsIn c.K mainGlobals x = some (some v)) (hk : keepIn c.K v = true)
    (hns : (starEach args env).all (!·.1) = true) (ha : EvL c nm X env fa A (spliced (backTo pos (starEach args env))) vars σ ds σ1) (hc : PureC c n v sp) (hp : D.pures ds = true) (e : sp ds = some d) :
    EvV c nm X env fa A (eval (.Call (.Name x p) args [] pos) env) vars σ d σ1 := by
  intro F ρ s Q Ex w post
  obtain ⟨hl, hdb⟩ := isGlob_lookup hx
  refine wpAny_bind (w.f.global Z w.g hl hg hdb ?_)
  refine CallF hk hns (ha F ρ s _ Ex w fun F1 ρ1 vs s1 l1 p1 w1 r1 => ⟨w1.g.K Z, ?_⟩)
  refine hc ds d e A F1 _ s1 vs _ _ gd w1.g.hide (r1.toPure hp) hp fun F2 r s2 l2 g2 r2 hd => ?_
  exact post F2 ρ1 r s2 (l1.trans l2) p1 (w1.unhide g2 l2) (r2.toPure hd)

theorem EvV.callNew {x : Str} {p pos : Pos} {a : Expr} {v : Value} {n : Nat} {sp : D → Option D} {y d : D} (Z : Bas c) (gd : Good n A) (hx : isGlob nm x = true) (hg : nsIn c.K mainGlobals x = some (some v)) (hk : keepIn c.K v = true)
    (hs : starEach [a] env = (false, eval a env) :: starEach [] env) (ha : EvV c nm X env fa A (eval a env) vars σ y σ1) (hc : NewC c n v sp) (hp : y.pure = true) (e : sp y = some d) :
    EvV c nm X env fa A (eval (.Call (.Name x p) [a] [] pos) env) vars σ d σ1 := by
  intro F ρ s Q Ex w post
  obtain ⟨hl, hdb⟩ := isGlob_lookup hx
  refine wpAny_bind (w.f.global Z w.g hl hg hdb ?_)
  refine CallF hk (by rw [hs]; rfl) ((EvL.cons (ds := []) hs ha EvL.nil) F ρ s _ Ex w fun F1 ρ1 vs s1 l1 p1 w1 r1 => ⟨w1.g.K Z, ?_⟩)
  cases r1 with
  | @cons u _ _ _ ru rn =>
  cases rn
  refine hc y d e A F1 _ s1 u _ _ gd w1.g.hide (ru.toPure hp) hp fun F2 r s2 l2 g2 r2 hd => ?_
  exact post F2 ρ1 r s2 (l1.trans l2) p1 (w1.unhide g2 l2) (r2.toPure hd)

theorem EvV.callMeth {o : Expr} {m : Str} {apos pos : Pos} {args : List Expr} {f : Addr} {n : Nat} {sp : List D → Option D} {as : List (Nat × D)} {ds : List D} {d : D} (Z : Bas c) (gd : Good n A) (hb : plainBase o = true) (hp : (apos.endLine == pos.line) = true) (hn : args.length < 29)
    (hf : findIn c.K (.ref c.C) m = some (some (.ref f))) (ht : isFn c.K (.ref f) = true) (hg : plainGet c.K c.C m = true) (hm : ∀ k, k < 5 → (attrName k == m) = false) (hk : keepIn c.K (.ref f) = true)
    (hns : (starEach args env).all (!·.1) = true) (ho : EvV c nm X env fa A (eval o env) vars σ (.inst as) σ1) (ha : EvL c nm X env fa A (spliced (backTo pos (starEach args env))) vars σ1 ds σ2)
    (hc : PureC c n (.ref f) sp) (hpu : D.pures (.inst as :: ds) = true) (e : sp (.inst as :: ds) = some d) :
    EvV c nm X env fa A (eval (.Call (.Attribute o m apos) args [] pos) env) vars σ d σ2 := by
  intro F ρ s Q Ex w post
  refine MCall hb hp hn hns (ho F ρ s _ Ex w fun F1 ρ1 v1 s1 l1 p1 w1 r1 => fun pl => ?_)
  obtain ⟨b, dd, es, k, rfl, h1, h2, h3⟩ := w1.g.inst r1 rfl
  have I : InstAt s1.heap b (instObj c.C dd) c.C (some (dictOf es k)) := ⟨h1, rfl, rfl, h2⟩
  refine method_fn (w1.g.K Z) I (plainGet_of hg).1 (plainGet_of hg).2 hf (beq_iff_eq.mp ht) (by show (lookIn m (dictOf es k)).map _ = _; rw [lookIn_dict, h3.miss hm]; rfl) ?_
  refine CallF hk hns (ha F1 ρ1 s1 _ Ex w1 fun F2 ρ2 vs s2 l2 p2 w2 r2 => ⟨w2.g.K Z, ?_⟩)
  have rr : Rvs c.C F2 ρ2 (.ref b :: vs) (.inst as :: ds) := .cons (r1.mono l2 p2) r2
  refine hc _ d e A F2 _ s2 _ _ _ gd w2.g.hide (rr.toPure hpu) hpu fun F3 r s3 l3 g3 r3 hd => ?_
  exact post F3 ρ2 r s3 ((l1.trans l2).trans l3) (p1.trans p2) (w2.unhide g3 l3) (r3.toPure hd)

theorem EvV.callM {x : Str} {p pos : Pos} {o : Expr} {args : List Expr} {v : Value} {n : Nat} {sp : List D → List D → Option (D × List D)} {l : Nat} {xs ys ds : List D} {d : D} (Z : Bas c) (gd : Good n A) (hx : isGlob nm x = true) (hg : nsIn c.K mainGlobals x = some (some v)) (hk : keepIn c.K v = true)
    (hns : (starEach (o :: args) env).all (!·.1) = true) (hs : starEach (o :: args) env = (false, eval o env) :: starEach args env)
    (ho : EvV c nm X env fa A (eval o env) vars σ (.loc l) σ1) (ha : EvL c nm X env fa A (spliced (backTo pos (starEach args env))) vars σ1 ds σ2) (hl : σ2[l]? = some (some (.lst xs)))
    (hc : MutC c n v sp) (hp : D.pures ds = true) (hpx : D.pures xs = true) (e : sp xs ds = some (d, ys)) :
    EvV c nm X env fa A (eval (.Call (.Name x p) (o :: args) [] pos) env) vars σ d (σ2.set l (some (.lst ys))) := by
  intro F ρ s Q Ex w post
  obtain ⟨hgl, hdb⟩ := isGlob_lookup hx
  refine wpAny_bind (w.f.global Z w.g hgl hg hdb ?_)
  refine CallF hk hns ((EvL.cons hs ho ha) F ρ s _ Ex w fun F1 ρ1 vs s1 l1 p1 w1 r1 => ⟨w1.g.K Z, ?_⟩)
  cases r1 with
  | @cons u _ vs _ ru rn =>
  obtain ⟨a, ws, k, rfl, q1, q2, q3⟩ := w1.g.live ru hl
  have hm : ObjR c.C F1 [[a]] s1.heap [a] (.lst xs) := .lst q2 (q3.toPure hpx)
  refine hc xs ds d ys e A F1 _ s1 a vs _ _ gd (w1.g.hideBut hl q1 hm) (rn.toPure hp) hp hpx fun F2 r s2 l2 g2 r2 hd hpy => ?_
  obtain ⟨r', h1, h2⟩ := g2.objs 0 _ rfl
  simp at h1; subst h1
  cases h2 with
  | lst ho' hs' =>
  obtain ⟨g3, hk3⟩ := w1.g.unhideBut hl q1 g2 l2 (.lst ho' (hs'.toPure hpy))
  exact post F2 ρ1 r s2 (l1.trans l2) p1 ⟨g3, w1.f.to l2 (List.prefix_refl _) fun i b o hi e => hk3 b o ⟨i, hi⟩ e⟩ (r2.toPure hd)
end
end Ev
end
section
set_option maxRecDepth 100000
set_option autoImplicit false
set_option linter.all false
namespace Ev
open PySem PySem.W PySem.Calls PyProof.Rows PySem.SeqAt

inductive FlR (c : Cx) (F : FM) (ρ : List (List Addr)) : Flow → Flw → Prop
  | next : FlR c F ρ .next .next
  | brk : FlR c F ρ .brk .brk
  | cont : FlR c F ρ .cont .cont
  | ret {v : Value} {d : D} (r : Rv c.C F ρ v d) : FlR c F ρ (.ret v) (.ret d)
def ExS (c : Cx) (nm : Nm) (X : PMap) (env : Env) (fa : List (Option Addr)) (A : Around) (t : Sem Flow) (vars : Vars) (σ : Sto) (fl : Flw) (vars' : Vars) (σ' : Sto) : Prop :=
  ∀ F ρ s Q Ex, W c nm X env fa F ρ vars σ s → (∀ F' ρ' f s', PLe F F' → ρ <+: ρ' → W c nm X env fa F' ρ' vars' σ' s' → FlR c F' ρ' f fl → Q f s') → wpAny (model c.prog c.w) A t Q Ex s

section
variable {c : Cx} {nm : Nm} {X : PMap} {fa : List (Option Addr)} {σ σ' σ1 σ2 σ3 σ4 : Sto} {env : Env} {vars : Vars} {A : Around} {F F' : FM} {ρ : List (List Addr)} {s s' : Shared}

theorem G.only0 (g : G c F X fa ρ σ s) : G c F X [] [] [] s where
  f := g.f
  x := g.x
  fx := g.fx
  base := g.base
  apart := fun t _ a _ _ h => (noTag h).elim
  own := fun t a _ h => (noTag h).elim
  objs := fun l m e => by simp at e
  len := rfl
  gens := g.gens
  os := g.os
  tpos := g.tpos
  ft := g.ft

theorem ObjR.toPure {ρ' : List (List Addr)} {h : Heap} {r : List Addr} {m : MObj} (o : ObjR c.C F ρ h r m) (hp : m.toD.pure = true) : ObjR c.C F ρ' h r m := by
  cases o with
  | lst ho hs => exact .lst ho (hs.toPure (by simpa [MObj.toD, D.pure] using hp))
  | inst ho hd hs => exact .inst ho hd (hs.toPure (by simpa [MObj.toD, D.pure] using hp))

theorem G.only1 {r : List Addr} {m : MObj} (g : G c F X fa ρ σ s) (hr : ρ[0]? = some r) (hm : σ[0]? = some (some m)) (hp : m.toD.pure = true) : G c F X [] [r] [some m] s := by
  have tg : ∀ t a, liveT [some m] t → a ∈ adrs [] [r] t → t = .loc 0 ∧ a ∈ r := by
    intro t a h ha
    cases t with
    | fr i => simp [adrs] at ha
    | loc k =>
      cases k with
      | zero => exact ⟨rfl, by simpa [adrs] using ha⟩
      | succ k => simp [adrs] at ha
  refine { f := g.f, x := g.x, fx := g.fx, base := g.base, apart := fun t t' a h h' a1 a2 => by rw [(tg t a h a1).1, (tg t' a h' a2).1], own := fun t a h a1 => ?_, objs := fun k m' e => ?_, len := rfl, gens := g.gens, os := g.os, tpos := g.tpos, ft := g.ft }
  · obtain ⟨rfl, hin⟩ := tg t a h a1
    exact g.own (.loc 0) a ⟨m, hm⟩ (by rw [adrs_loc hr]; exact hin)
  · cases k with
    | zero =>
      simp at e; subst e
      obtain ⟨r', h1, h2⟩ := g.objs 0 _ hm
      rw [hr] at h1; cases h1
      exact ⟨r, rfl, h2.toPure hp⟩
    | succ k => simp at e

/-- the body of a def does what the evaluator says -/
def BodyOk (c : Cx) (n : Nat) (nm : Nm) (sc : Scope) (Δ : Dl) (m : Nat) (body : List Stmt) (b : List S) : Prop :=
  ∀ (env : Env) fa A X vars σ fl vars' σ', env.scope = sc → Good n A → exSs Δ m b vars σ = some (fl, vars', σ') → ExS c nm X env fa A (execs body env) vars σ fl vars' σ'

structure FnIn (c : Cx) (C : Cc) (f : Addr) (fd : FuncData) (fn : Fn) (as : List Arg) (body : List Stmt) : Prop where
  ok : FnOk C fd fn as body
  at_ : ∃ oc od sl, c.K.lookup f = some ⟨oc, od, .func fd, sl⟩
  code : codeIn c.K fd.code fd.qualname = true

theorem G.nolim (Z : Bas c) (g : G c F X fa ρ σ s) : s.heap.NoLimit := Z.nolimit.keeps fun b o e => g.f b o (g.base b o e)

theorem pureOf {C : Cc} {f : Addr} {fd : FuncData} {fn : Fn} {as : List Arg} {body : List Stmt} {Δ : Dl} {m n : Nat} (Z : Bas c) (h : FnIn c C f fd fn as body) (hb : BodyOk c n fd.scope.names fd.scope Δ m body fn.body) :
    PureC c (n + 1) (.ref f) (runP Δ m fn) := by
  intro ds d e A F X s vs Q Ex gd g rv hp post
  unfold runP at e
  split at e
  · rename_i hc
    simp only [Bool.and_eq_true, beq_iff_eq] at hc
    split at e
    · rename_i d' vars' σ' he
      split at e
      · rename_i hd
        cases e
        obtain ⟨oc, od, sl, ho⟩ := h.at_
        refine wpAny_call (enterFn h.ok Z g (g.K Z _ _ ho) rfl (codeRec_of (g.K Z) h.code) (g.nolim Z) gd.room rv hc.1 fun env fa s1 hsc w => ?_)
        refine hb env fa (A.deeper env) X _ _ _ _ _ hsc gd.deeper he F [] s1 _ _ w fun F' ρ' fl s2 le _ w2 r => ?_
        cases r with
        | ret r => exact post F' _ s2 le w2.g.only0 (r.toPure hd) hd
      · cases e
    · cases e
  · cases e

theorem mutOf {C : Cc} {f : Addr} {fd : FuncData} {fn : Fn} {as : List Arg} {body : List Stmt} {Δ : Dl} {m n : Nat} (Z : Bas c) (h : FnIn c C f fd fn as body) (hb : BodyOk c n fd.scope.names fd.scope Δ m body fn.body) :
    MutC c (n + 1) (.ref f) (runM Δ m fn) := by
  intro xs ds d ys e A F X s a vs Q Ex gd g rv hp hpx post
  obtain ⟨oc, od, sl, ho⟩ := h.at_
  have fin : ∀ {F' : FM} {ρ' : List (List Addr)} {vars' : Vars} {σ' : Sto} {env : Env} {fa : List (Option Addr)} {s2 : Shared} {ys : List D}, [[a]] <+: ρ' → W c fd.scope.names X env fa F' ρ' vars' σ' s2 → look σ' 0 = some (.lst ys) → D.pures ys = true → G c F' X [] [[a]] [some (.lst ys)] s2 := by
    intro F' ρ' vars' σ' env fa s2 ys hpre w2 hlk hpy
    have hσ : σ'[0]? = some (some (.lst ys)) := by
      unfold look at hlk
      cases q : σ'[0]? with
      | none => rw [q] at hlk; cases hlk
      | some o => rw [q] at hlk; simp at hlk; rw [hlk]
    have hr : ρ'[0]? = some [a] := by obtain ⟨t, rfl⟩ := hpre; rfl
    exact w2.g.only1 hr hσ (by simpa [MObj.toD, D.pure] using hpy)
  unfold runM at e
  split at e
  · rename_i hc
    simp only [Bool.and_eq_true, beq_iff_eq] at hc
    have rr : Rvs c.C F [[a]] (.ref a :: vs) (.loc 0 :: ds) := .cons (.loc ⟨[], rfl⟩) (rv.toPure hp)
    split at e
    · rename_i d' vars' σ' he
      split at e
      · rename_i ys' hlk
        split at e
        · rename_i hd
          cases e
          simp only [Bool.and_eq_true] at hd
          refine wpAny_call (enterFn h.ok Z g (g.K Z _ _ ho) rfl (codeRec_of (g.K Z) h.code) (g.nolim Z) gd.room rr (by simp; exact hc.1.1) fun env fa s1 hsc w => ?_)
          refine hb env fa (A.deeper env) X _ _ _ _ _ hsc gd.deeper he F _ s1 _ _ w fun F' ρ' fl s2 le hpre w2 r => ?_
          cases r with
          | ret r => exact post F' _ s2 le (fin hpre w2 hlk hd.2) (r.toPure hd.1) hd.1 hd.2
        · cases e
      · cases e
    · rename_i vars' σ' he
      split at e
      · rename_i ys' hlk
        split at e
        · rename_i hd
          cases e
          refine wpAny_call (enterFn h.ok Z g (g.K Z _ _ ho) rfl (codeRec_of (g.K Z) h.code) (g.nolim Z) gd.room rr (by simp; exact hc.1.1) fun env fa s1 hsc w => ?_)
          refine hb env fa (A.deeper env) X _ _ _ _ _ hsc gd.deeper he F _ s1 _ _ w fun F' ρ' fl s2 le hpre w2 r => ?_
          cases r with
          | next => exact post F' _ s2 le (fin hpre w2 hlk hd) .none rfl hd
        · cases e
      · cases e
    · cases e
  · cases e

theorem Good.under {n : Nat} {args : Args} (gd : Good (n + 1) A) (hw : (Code.builtin "type.__call__" args).frames = 0 := by rfl) : Good n (A.under (.builtin "type.__call__" args)) := by
  have h1 : (Code.builtin "type.__call__" args).weight ≤ 1 := by
    unfold Code.weight
    rw [hw]
    have e1 : (Code.builtin "type.__call__" args).isGuard = false := by show guardIds.contains "type.__call__" = false; decide +kernel
    have e2 : (Code.builtin "type.__call__" args).isCaller = false := by unfold Code.isCaller; rfl
    rw [e1, e2]
    split <;> simp
  have h2 : (Code.builtin "type.__call__" args).cUnits = 1 := by show 1 + 3 * (Code.builtin "type.__call__" args).frames = 1; rw [hw]
  have q1 := gd.depth
  have q2 := gd.units
  exact ⟨gd.hh, by show A.depth + _ + n < _; omega, by show A.units + _ + _ + _ < _; omega⟩

theorem newOf {C : Cc} {f : Addr} {fd : FuncData} {fn : Fn} {as : List Arg} {body : List Stmt} {Δ : Dl} {m n : Nat} (Z : Bas c) (h : FnIn c C f fd fn as body) (hb : BodyOk c n fd.scope.names fd.scope Δ m body fn.body)
    (hm : makesIn c.K c.C = true) (hi : findIn c.K (.ref c.C) "__init__" = some (some (.ref f))) (hf : typeIn c.K (.ref f) = some (.type "function")) :
    NewC c (n + 2) (.ref c.C) (runI Δ m fn) := by
  intro x d e A F X s u Q Ex gd g rv hp post
  obtain ⟨oc, od, sl, ho⟩ := h.at_
  unfold runI at e
  split at e
  · rename_i hc
    simp only [Bool.and_eq_true, beq_iff_eq] at hc
    split at e
    · rename_i vars' σ' he
      split at e
      · rename_i as' hlk
        split at e
        · rename_i hd
          cases e
          refine wpAny_call ?_
          obtain ⟨hh, gg, dr, t, os⟩ := s
          have XK := g.K Z
          refine make_core (makes_of XK hm) (looks_findIn XK hi) (fun self => bind_fn XK self hf) (.inl rfl) ?_
          have g1 := (g.push emptyDict).push (instObj c.C hh.objs.size)
          have hx : ((hh.push emptyDict).push (instObj c.C hh.objs.size)).get? (hh.objs.size + 1) = some (instObj c.C hh.objs.size) := by
            have := Heap.get?_push_size (hh.push emptyDict) (o := instObj c.C hh.objs.size) rfl
            rwa [Heap.size_push] at this
          have hdx : ((hh.push emptyDict).push (instObj c.C hh.objs.size)).get? hh.objs.size = some (dictOf [] 0) := Heap.get?_push_of_some _ (Heap.get?_push_size hh (o := emptyDict) rfl)
          have g2 := g1.newLoc (r := [hh.objs.size + 1, hh.objs.size]) (m := .inst []) (fun a ha => by
            have hge : hh.objs.size ≤ a := by simp at ha; rcases ha with rfl | rfl <;> omega
            obtain ⟨q1, q2, q3⟩ := g.fresh (none_of_ge hge)
            refine ⟨q1, q2, q3, ?_⟩
            simp at ha
            rcases ha with rfl | rfl
            · exact ⟨_, hx⟩
            · exact ⟨_, hdx⟩) (.inst hx hdx .nil)
          have rr : Rvs c.C F ([] ++ [[hh.objs.size + 1, hh.objs.size]]) [.ref (hh.objs.size + 1), u] [.loc 0, x] := .cons (.loc ⟨[hh.objs.size], rfl⟩) (.cons (rv.toPure hp) .nil)
          refine enterFn h.ok Z g2 (g2.K Z _ _ ho) rfl (codeRec_of (g2.K Z) h.code) (g2.nolim Z) (Good.under (n := n + 1) gd).room rr (by simp [hc.1]) fun env fa s1 hsc w => ?_
          refine hb env fa _ X _ _ _ _ _ hsc (Good.deeper (Good.under (n := n + 1) gd)) he F _ s1 _ _ w fun F' ρ' fl s2 le hpre w2 r => ?_
          cases r with
          | next =>
          refine ⟨rfl, ?_⟩
          have hσ : σ'[0]? = some (some (.inst as')) := by
            unfold look at hlk
            cases q : σ'[0]? with
            | none => rw [q] at hlk; cases hlk
            | some o => rw [q] at hlk; simp at hlk; rw [hlk]
          have hr : ρ'[0]? = some [hh.objs.size + 1, hh.objs.size] := by obtain ⟨t, rfl⟩ := hpre; rfl
          obtain ⟨F3, l3, g3, r3⟩ := w2.g.freeze hσ (v := .ref (hh.objs.size + 1)) (.loc ⟨_, hr⟩)
          have hd' : D.pure (.inst as') = true := by simpa [D.pure] using hd
          exact post F3 _ s2 (le.trans l3) g3.only0 (r3.toPure hd') hd'
        · cases e
      · cases e
    · cases e
  · cases e
end
end Ev
end
section
set_option maxRecDepth 100000
set_option autoImplicit false
set_option linter.all false
namespace Ev
open PySem PySem.W PySem.Calls PyProof.Rows PySem.SeqAt

section
variable {c : Cx} {nm : Nm} {X : PMap} {fa : List (Option Addr)} {σ σ' σ1 σ2 σ3 σ4 : Sto} {env : Env} {vars vars' vars1 : Vars} {A : Around} {F F' : FM} {ρ ρ' : List (List Addr)} {s s' : Shared} {fl : Flw}

theorem Kp.toks_le (k : Kp s s') : s.toks ≤ s'.toks := k.toks

/-! the short statements -/
theorem ExS.brk {pos : Pos} : ExS c nm X env fa A (exec (.Break pos) env) vars σ .brk vars σ := fun F ρ s Q Ex w post => wpAny_Break (post F ρ _ s PLe.rfl (List.prefix_refl _) w .brk)
theorem ExS.cont {pos : Pos} : ExS c nm X env fa A (exec (.Continue pos) env) vars σ .cont vars σ := fun F ρ s Q Ex w post => wpAny_Continue (post F ρ _ s PLe.rfl (List.prefix_refl _) w .cont)
theorem ExS.nil : ExS c nm X env fa A (execs [] env) vars σ .next vars σ := fun F ρ s Q Ex w post => wpAny_execs_nil (post F ρ _ s PLe.rfl (List.prefix_refl _) w .next)
theorem ExS.cons {st : Stmt} {r : List Stmt} (h : ExS c nm X env fa A (exec st env) vars σ .next vars1 σ1) (hr : ExS c nm X env fa A (execs r env) vars1 σ1 fl vars' σ') : ExS c nm X env fa A (execs (st :: r) env) vars σ fl vars' σ' := by
  intro F ρ s Q Ex w post
  refine wpAny_execs_cons (h F ρ s _ Ex w fun F1 ρ1 f s1 l1 p1 w1 r1 => ?_)
  cases r1 with
  | next => exact hr F1 ρ1 s1 _ Ex w1 fun F2 ρ2 f s2 l2 p2 w2 r2 => post F2 ρ2 f s2 (l1.trans l2) (p1.trans p2) w2 r2
theorem ExS.stop {st : Stmt} {r : List Stmt} (h : ExS c nm X env fa A (exec st env) vars σ fl vars' σ') (hn : fl ≠ .next) : ExS c nm X env fa A (execs (st :: r) env) vars σ fl vars' σ' := by
  intro F ρ s Q Ex w post
  refine wpAny_execs_cons (h F ρ s _ Ex w fun F1 ρ1 f s1 l1 p1 w1 r1 => ?_)
  cases r1 with
  | next => exact absurd rfl hn
  | brk => exact post F1 ρ1 _ s1 l1 p1 w1 .brk
  | cont => exact post F1 ρ1 _ s1 l1 p1 w1 .cont
  | ret r => exact post F1 ρ1 _ s1 l1 p1 w1 (.ret r)

theorem ExS.ite {t : Expr} {a b : List Stmt} {pos : Pos} {v : Bool} (h : EvB c nm X env fa A (isTrue t env (eval t env)) vars σ v σ1)
    (ha : v = true → ExS c nm X env fa A (execs a env) vars σ1 fl vars' σ') (hb : v = false → ExS c nm X env fa A (execs b env) vars σ1 fl vars' σ') : ExS c nm X env fa A (exec (.If t a b pos) env) vars σ fl vars' σ' := by
  intro F ρ s Q Ex w post
  refine wpAny_If (h F ρ s _ Ex w fun F1 ρ1 s1 l1 p1 w1 => ?_)
  cases v with
  | true => exact ha rfl F1 ρ1 s1 _ Ex w1 fun F2 ρ2 f s2 l2 p2 w2 r2 => post F2 ρ2 f s2 (l1.trans l2) (p1.trans p2) w2 r2
  | false => exact hb rfl F1 ρ1 s1 _ Ex w1 fun F2 ρ2 f s2 l2 p2 w2 r2 => post F2 ρ2 f s2 (l1.trans l2) (p1.trans p2) w2 r2

theorem W.frz {d d' : D} {v : Value} (w : W c nm X env fa F ρ vars σ s) (r : Rv c.C F ρ v d) (e : Ev.frz σ d = some (d', σ')) : ∃ F', PLe F F' ∧ W c nm X env fa F' ρ vars σ' s ∧ Rv c.C F' ρ v d' := by
  unfold Ev.frz at e
  split at e
  · split at e
    · rename_i l _ m hl
      cases e
      obtain ⟨F', le, g', r'⟩ := w.g.freeze hl r
      exact ⟨F', le, w.intoG g' le (List.prefix_refl _), r'⟩
    · cases e
  · cases e
    exact ⟨F, PLe.rfl, w, r⟩

theorem ExS.ret {e : Expr} {pos : Pos} {d d' : D} (h : EvV c nm X env fa A (eval e env) vars σ d σ1) (hf : Ev.frz σ1 d = some (d', σ')) : ExS c nm X env fa A (exec (.Return (some e) pos) env) vars σ (.ret d') vars σ' := by
  intro F ρ s Q Ex w post
  refine wpAny_Return_some (h F ρ s _ Ex w fun F1 ρ1 v s1 l1 p1 w1 r1 => ?_)
  obtain ⟨F2, l2, w2, r2⟩ := w1.frz r1 hf
  exact post F2 ρ1 _ s1 (l1.trans l2) p1 w2 (.ret r2)

theorem ExS.expr {e : Expr} {pos : Pos} (h : EvV c nm X env fa A (eval e env) vars σ .none σ1) (hi : interactive env = false) (hs : swapsWith e none pos.line env = pure false) : ExS c nm X env fa A (exec (.Expr e pos) env) vars σ .next vars σ1 := by
  intro F ρ s Q Ex w post
  refine wpAny_Expr (h F ρ s _ Ex w fun F1 ρ1 v s1 l1 p1 w1 r1 => ?_) hi hs
  cases r1 with
  | none => exact post F1 ρ1 _ s1 l1 p1 w1 .next

/-! while -/
theorem ExS.wh {t : Expr} {b : List Stmt} {pos : Pos} {k : Nat} {cf : Vars → Sto → Option (Bool × Sto)} {f : Vars → Sto → Option (Flw × Vars × Sto)}
    (hc : ∀ vars σ v σ', cf vars σ = some (v, σ') → EvB c nm X env fa A (isTrue t env (eval t env)) vars σ v σ')
    (hb : ∀ vars σ fl vars' σ', f vars σ = some (fl, vars', σ') → ExS c nm X env fa A (execs b env) vars σ fl vars' σ')
    (e : whD cf f k vars σ = some (fl, vars', σ')) : ExS c nm X env fa A (exec (.While t b [] pos) env) vars σ fl vars' σ' := by
  intro F ρ s Q Ex w post
  refine wpAny_While (codeAny_whileLoop (fun n s => ∃ F1 ρ1 vars1 σ1, PLe F F1 ∧ ρ <+: ρ1 ∧ W c nm X env fa F1 ρ1 vars1 σ1 s ∧ whD cf f n vars1 σ1 = some (fl, vars', σ')) ?_ k ⟨F, ρ, vars, σ, PLe.rfl, List.prefix_refl _, w, e⟩)
  rintro n s1 ⟨F1, ρ1, vars1, σ1, l1, p1, w1, e1⟩
  cases n with
  | zero => simp [whD] at e1
  | succ n =>
    unfold whD at e1
    cases hcv : cf vars1 σ1 with
    | none => rw [hcv] at e1; cases e1
    | some p =>
      obtain ⟨v, σ2⟩ := p
      rw [hcv] at e1
      refine hc _ _ _ _ hcv F1 ρ1 s1 _ _ w1 fun F2 ρ2 s2 l2 p2 w2 => ?_
      cases v with
      | false =>
        dsimp only at e1
        cases e1
        exact wpAny_execs_nil (post F2 ρ2 .next s2 (l1.trans l2) (p1.trans p2) w2 .next)
      | true =>
        dsimp only at e1
        simp only [if_true]
        cases hf : f vars1 σ2 with
        | none => rw [hf] at e1; cases e1
        | some q =>
          obtain ⟨fl2, vars2, σ3⟩ := q
          rw [hf] at e1
          refine hb _ _ _ _ _ hf F2 ρ2 s2 _ _ w2 fun F3 ρ3 fx s3 l3 p3 w3 r3 => ?_
          have L := (l1.trans l2).trans l3
          have P := (p1.trans p2).trans p3
          cases r3 with
          | next => exact ⟨n, Nat.lt_succ_self _, F3, ρ3, vars2, σ3, L, P, w3, e1⟩
          | cont => exact ⟨n, Nat.lt_succ_self _, F3, ρ3, vars2, σ3, L, P, w3, e1⟩
          | brk => dsimp only at e1; cases e1; exact post F3 ρ3 .next s3 L P w3 .next
          | ret r => dsimp only at e1; cases e1; exact post F3 ρ3 _ s3 L P w3 (.ret r)

/-! protected objects, many at once -/
def GuardOk (F : FM) (X : PMap) (fa : List (Option Addr)) (ρ : List (List Addr)) (σ : Sto) (wr : List Addr) : Prop := ∀ b ∈ wr, F.o b = none ∧ X b = none ∧ ∀ t, liveT σ t → b ∉ adrs fa ρ t
theorem G.guardL {wr : List Addr} (g : G c F X fa ρ σ s) (h : GuardOk F X fa ρ σ wr) : G c F (hid (· ∈ wr) X s.heap) fa ρ σ s where
  f := g.f
  x := fun b o e => by
    by_cases hb : b ∈ wr
    · rw [hid_pos hb] at e; exact e
    · rw [hid_neg hb] at e; exact g.x b o e
  fx := fun b o e => by
    by_cases hb : b ∈ wr
    · rw [(h b hb).1] at e; cases e
    · rw [hid_neg hb]; exact g.fx b o e
  base := g.base
  apart := g.apart
  own := fun t b l m => by
    obtain ⟨q1, q2, q3⟩ := g.own t b l m
    refine ⟨q1, ?_, q3⟩
    by_cases hb : b ∈ wr
    · exact absurd m ((h b hb).2.2 t l)
    · rw [hid_neg hb]; exact q2
  objs := g.objs
  len := g.len
  gens := g.gens
  os := g.os
  tpos := g.tpos
  ft := g.ft
theorem G.unguardL {wr : List Addr} {h0 : Heap} (hX : ∀ b ∈ wr, X b = none) (hl : ∀ b ∈ wr, ∃ o, h0.get? b = some o) (g : G c F (hid (· ∈ wr) X h0) fa ρ σ s) :
    G c F X fa ρ σ s ∧ (∀ b ∈ wr, ∀ o, h0.get? b = some o → s.heap.get? b = some o) ∧ GuardOk F X fa ρ σ wr := by
  have nx : ∀ b o, X b = some o → ¬ b ∈ wr := fun b o e hb => by rw [hX b hb] at e; cases e
  refine ⟨{ f := g.f, x := fun b o e => g.x b o (by rw [hid_neg (nx b o e)]; exact e), fx := fun b o e => ?_, base := g.base, apart := g.apart, own := fun t b l m => ?_, objs := g.objs, len := g.len, gens := g.gens, os := g.os, tpos := g.tpos, ft := g.ft },
    fun b hb o e => g.x b o (by rw [hid_pos hb]; exact e), fun b hb => ⟨?_, hX b hb, fun t l m => ?_⟩⟩
  · have := g.fx b o e
    by_cases hb : b ∈ wr
    · exact hX b hb
    · rwa [hid_neg hb] at this
  · obtain ⟨q1, q2, q3⟩ := g.own t b l m
    refine ⟨q1, ?_, q3⟩
    by_cases hb : b ∈ wr
    · exact hX b hb
    · rwa [hid_neg hb] at q2
  · cases e : F.o b with
    | none => rfl
    | some o =>
      have := g.fx b o e
      obtain ⟨o', q⟩ := hl b hb
      rw [hid_pos hb, q] at this; cases this
  · have := (g.own t b l m).2.1
    obtain ⟨o', q⟩ := hl b hb
    rw [hid_pos hb, q] at this; cases this

theorem W.guardL {wr : List Addr} (w : W c nm X env fa F ρ vars σ s) (h : GuardOk F X fa ρ σ wr) : W c nm (hid (· ∈ wr) X s.heap) env fa F ρ vars σ s := by
  refine ⟨w.g.guardL h, { w.f with free := ?_ }⟩
  intro i x d h1 h2
  obtain ⟨b, o', v, q1, q2, q3, q4⟩ := w.f.free i x d h1 h2
  have hb : ¬ b ∈ wr := fun hb => by rw [(h b hb).2.1] at q2; cases q2
  exact ⟨b, o', v, q1, by rw [hid_neg hb]; exact q2, q3, q4⟩
theorem W.unguardL {wr : List Addr} {h0 : Heap} (hX : ∀ b ∈ wr, X b = none) (hl : ∀ b ∈ wr, ∃ o, h0.get? b = some o ∧ ∀ w, o.data ≠ .cell w) (w : W c nm (hid (· ∈ wr) X h0) env fa F ρ vars σ s) :
    W c nm X env fa F ρ vars σ s ∧ (∀ b ∈ wr, ∀ o, h0.get? b = some o → s.heap.get? b = some o) ∧ GuardOk F X fa ρ σ wr := by
  obtain ⟨g, k, q⟩ := w.g.unguardL hX fun b hb => let ⟨o, e, _⟩ := hl b hb; ⟨o, e⟩
  refine ⟨⟨g, { w.f with free := ?_ }⟩, k, q⟩
  intro i x d h1 h2
  obtain ⟨b, o', v, q1, q2, q3, q4⟩ := w.f.free i x d h1 h2
  by_cases hb : b ∈ wr
  · obtain ⟨o, e, hn⟩ := hl b hb
    rw [hid_pos hb, e] at q2; cases q2
    exact absurd q3 (hn _)
  · exact ⟨b, o', v, q1, by rwa [hid_neg hb] at q2, q3, q4⟩
end
end Ev
end
section
set_option maxRecDepth 100000
set_option autoImplicit false
set_option linter.all false
namespace Ev
open PySem PySem.W PySem.Calls PyProof.Rows PySem.SeqAt

section
variable {prog : Program} {w : World} {A : Around} {E : Value → Shared → Prop} {s : Shared}
theorem draw_list {it t : Addr} {items : Array Value} (hne : t ≠ it) : ∀ (n i : Nat) (s : Shared) (Q : List Value → Shared → Prop), s.heap.IsListIter it t i → s.heap.IsList t items → i + n ≤ items.size →
    (∀ h', h'.IsListIter it t (i + n) → Heap.SameBut it s.heap h' → Q ((items.toList.drop i).take n) { s with heap := h' }) → wpAny (model prog w) A (draw (.ref it) n) Q E s
  | 0, i, s, Q, hit, _, _, hQ => by
    show wpAny _ _ (pure []) Q E s
    exact wpAny_pure (by simpa using hQ s.heap hit (Heap.SameBut.refl ..))
  | n + 1, i, s, Q, hit, ht, hle, hQ => by
    have hlt : i < items.size := by omega
    show wpAny _ _ (pyNext (.ref it) >>= _) Q E s
    refine wpAny_bind (wpAny_pyNext_list_item hit ht (x := items[i]) (by simp [hlt]) fun h₁ hit₁ hs₁ => ?_)
    refine wpAny_bind (wpAny_holding (draw_list hne n (i + 1) _ _ hit₁ (ht.extBut hs₁.extBut hne) (by omega) fun h₂ hit₂ hs₂ => wpAny_pure ?_))
    have hd : items.toList.drop i = items[i] :: items.toList.drop (i + 1) := by simp [List.drop_eq_getElem_cons, hlt]
    have := hQ h₂ (by rw [show i + (n + 1) = i + 1 + n by omega]; exact hit₂) (hs₁.trans hs₂)
    rw [hd, List.take_succ_cons] at this
    exact this
theorem unpackItems_list {t : Addr} {items : Array Value} {Q : List Value → Shared → Prop} (hh : A.handled = none) (ht : s.heap.IsList t items)
    (hQ : ∀ h', Heap.ExtBut s.heap.objs.size s.heap h' → Q items.toList { s with heap := h' }) : wpAny (model prog w) A (unpackItems (.ref t) items.size none) Q E s := by
  have hlt : t ≠ s.heap.objs.size := by obtain ⟨o, ho, _⟩ := ht; exact Nat.ne_of_lt (Heap.lt_size ho)
  unfold unpackItems
  refine wpAny_bind ?_
  unfold notIterableAtAll
  refine wpAny_bind (wpAny_specialOf ht.typeIs slot_list_iter.lookup ?_)
  refine wpAny_pure ?_
  simp only [Bool.false_eq_true, if_false]
  refine wpAny_bind (wpAny_holding (wpAny_pyIter_list ht ?_))
  refine wpAny_bind (wpAny_holding (draw_list hlt items.size 0 _ _ ⟨_, Heap.get?_push_size _ rfl, rfl, rfl⟩ (ht.push _) (by omega) fun h₁ hit₁ hs₁ => ?_))
  have hall : List.take items.size (List.drop 0 items.toList) = items.toList := by
    rw [List.drop_zero]; exact List.take_of_length_le (by simp)
  rw [hall]
  rw [if_neg (by simp)]
  have ht₁ : h₁.IsList t items := (ht.push _).extBut hs₁.extBut hlt
  refine wpAny_bind (wpAny_holding (wpAny_pyNext_list_end hh hit₁ ht₁ (by simp) fun h₂ he₂ => ?_))
  simp only [Option.isSome_none, Bool.false_eq_true, if_false]
  refine wpAny_pure (hQ h₂ fun b o hb e => he₂ b o hb (hs₁.extBut b o hb (Heap.get?_push_of_some _ e)))
end

/-- storing a value -/
def EvA (c : Cx) (nm : Nm) (X : PMap) (env : Env) (fa : List (Option Addr)) (A : Around) (t : Value → Sem Unit) (d : D) (vars vars' : Vars) : Prop :=
  ∀ F ρ σ s v Q Ex, W c nm X env fa F ρ vars σ s → Rv c.C F ρ v d → (∀ s', W c nm X env fa F ρ vars' σ s' → Q () s') → wpAny (model c.prog c.w) A (t v) Q Ex s

theorem setVar_inv {vars vars' : Vars} {i : Nat} {d : D} (e : setVar vars i d = some vars') : i < vars.length ∧ vars' = vars.set i (some d) := by
  unfold setVar at e; split at e
  · rename_i h; cases e; exact ⟨h, rfl⟩
  · cases e
theorem compTgt_idx {nm : Nm} {x : Str} {i : Nat} (e : compTgt nm x = some i) : ∃ k, nmIdx nm x = some (i, k) ∧ (k = .local ∨ k = .cell) := by
  unfold compTgt at e
  split at e
  · rename_i j h; cases e; exact ⟨_, h, .inl rfl⟩
  · rename_i j h; cases e; exact ⟨_, h, .inr rfl⟩
  · cases e

section
variable {c : Cx} {nm : Nm} {X : PMap} {fa : List (Option Addr)} {σ σ' σ1 : Sto} {env : Env} {vars vars' vars1 : Vars} {A : Around} {F F' : FM} {ρ ρ' : List (List Addr)} {s s' : Shared}

theorem EvA.store {x : Str} {i : Nat} {d : D} (e : compTgt nm x = some i) (h : setVar vars i d = some vars') : EvA c nm X env fa A (fun v => storeName env x v) d vars vars' := by
  intro F ρ σ s v Q Ex w r post
  obtain ⟨k, h1, h2⟩ := compTgt_idx e
  obtain ⟨h3, rfl⟩ := setVar_inv h
  exact w.f.store w.g (nmIdx_get h1) h2 r fun s' g f => post s' ⟨g, f⟩
theorem EvA.bind {x : Str} {i : Nat} {d : D} (e : compTgt nm x = some i) (h : setVar vars i d = some vars') : EvA c nm X env fa A (bindName env x) d vars vars' :=
  fun F ρ σ s v Q Ex w r post => wpAny_bindName (EvA.store e h F ρ σ s v Q Ex w r post)
theorem EvA.name {x : Str} {p : Pos} {i : Nat} {d : D} (e : compTgt nm x = some i) (h : setVar vars i d = some vars') : EvA c nm X env fa A (assign (.Name x p) env) d vars vars' :=
  fun F ρ σ s v Q Ex w r post => wpAny_assign_Name (EvA.store e h F ρ σ s v Q Ex w r post)

theorem wpAny_assignInOrder {es : List (Value → Sem Unit)} {ds : List D} : ∀ {is : List Nat} {vs : List Value} {vars vars' : Vars} {s : Shared} {σ : Sto} {F : FM} {ρ : List (List Addr)} {Q : Unit → Shared → Prop} {Ex : Value → Shared → Prop},
    es.length = is.length → (∀ (k : Nat) t i, es[k]? = some t → is[k]? = some i → ∀ vars vars' d, setVar vars i d = some vars' → EvA c nm X env fa A t d vars vars') →
    W c nm X env fa F ρ vars σ s → Rvs c.C F ρ vs ds → setVars vars is ds = some vars' → (∀ s', W c nm X env fa F ρ vars' σ s' → Q () s') → wpAny (model c.prog c.w) A (assignInOrder es vs) Q Ex s := by
  induction es generalizing ds with
  | nil =>
    intro is vs vars vars' s σ F ρ Q Ex hl ht w r e post
    cases is with
    | cons i is => simp at hl
    | nil =>
      cases r with
      | nil => simp [setVars] at e; subst e; unfold assignInOrder; exact wpAny_pure (post s w)
      | cons _ _ => simp [setVars] at e
  | cons t es ih =>
    intro is vs vars vars' s σ F ρ Q Ex hl ht w r e post
    cases is with
    | nil => simp at hl
    | cons i is =>
      cases r with
      | nil => simp [setVars] at e
      | @cons v d vs ds r rs =>
        unfold setVars at e
        obtain ⟨vars1, e1, e2⟩ := Option.bind_eq_some_iff.mp e
        unfold assignInOrder
        refine wpAny_bind (wpAny_holding (ht 0 t i rfl rfl _ _ _ e1 F ρ σ s v _ Ex w r fun s1 w1 => ?_))
        exact ih (by simpa using hl) (fun k t' i' a b => ht (k + 1) t' i' (by simpa using a) (by simpa using b)) w1 rs e2 post

theorem compTs_get : ∀ {es : List Expr} {is : List Nat}, es.mapM (fun (e : Expr) => match e with | .Name x _ => compTgt nm x | _ => none) = some is →
    es.length = is.length ∧ (assignEach es env).length = is.length ∧ (assignEach es env).findIdx? (·.1) = none ∧ (∀ (k : Nat) t i, ((assignEach es env).map (·.2))[k]? = some t → is[k]? = some i → ∃ x p, es[k]? = some (.Name x p) ∧ t = assign (.Name x p) env ∧ compTgt nm x = some i)
  | [], is, h => by simp at h; subst h; exact ⟨rfl, rfl, rfl, fun k t i a _ => by simp [assignEach] at a⟩
  | e :: es, is, h => by
    rw [List.mapM_cons] at h
    obtain ⟨i, h1, h2⟩ := Option.bind_eq_some_iff.mp h
    obtain ⟨is', h3, h4⟩ := Option.bind_eq_some_iff.mp h2
    cases h4
    obtain ⟨q1, q2, q3, q4⟩ := compTs_get h3
    split at h1
    · rename_i x p
      refine ⟨by simp [q1], by show (_ :: assignEach es env).length = _; simp [q2], ?_, ?_⟩
      · show List.findIdx? _ ((false, assign (.Name x p) env) :: assignEach es env) = none
        rw [List.findIdx?_cons]; simp [q3]
      · intro k t j a b
        cases k with
        | zero =>
          have a' : some (assign (.Name x p) env) = some t := a
          cases a'; simp at b; subst b
          exact ⟨x, p, rfl, rfl, h1⟩
        | succ k => exact q4 k t j a (by simpa using b)
    · cases h1

theorem EvA.target (hh : A.handled = none) {t : Expr} {T : Ev.T} {d : D} (e : compT nm t = some T) (h : asgT T d vars = some vars') : EvA c nm X env fa A (assign t env) d vars vars' := by
  unfold compT at e
  split at e
  · rename_i x p
    obtain ⟨i, h1, h2⟩ := Option.map_eq_some_iff.mp e
    subst h2
    exact EvA.name h1 (by unfold asgT at h; exact h)
  · rename_i es n p
    obtain ⟨is, h1, h2⟩ := Option.map_eq_some_iff.mp e
    subst h2
    obtain ⟨q1, q2, q3, q4⟩ := compTs_get (env := env) h1
    have step : ∀ (k : Nat) t i, ((assignEach es env).map (·.2))[k]? = some t → is[k]? = some i → ∀ vars vars' d, setVar vars i d = some vars' → EvA c nm X env fa A t d vars vars' := by
      intro k t i a b vars vars' d hs
      obtain ⟨x, p, _, rfl, hx⟩ := q4 k t i a b
      exact EvA.name hx hs
    intro F ρ σ s v Q Ex w r post
    unfold asgT at h
    split at h
    · cases ‹T.tup is = T.var _›
    · rename_i is' ds hd
      cases hd
      split at h
      · rename_i hlen
        obtain ⟨a, vs, rfl, hl, hs⟩ := w.g.tuple (.old r)
        have hsz : (assignEach es env).length = vs.toArray.size := by rw [q2]; simp [hs.length]; simpa using hlen
        refine wpAny_assign_Tuple hh hl hsz q3 fun h' he => ?_
        have w' : W c nm X env fa F ρ vars σ { s with heap := h' } := w.keep (Kp.mk' (tk := s.toks) (fun b o e => he b o (Nat.ne_of_lt (Heap.lt_size e)) e) (Nat.le_refl _))
        exact wpAny_assignInOrder (by simp [q2]) step w' hs h post
      · cases h
    · rename_i is' ds hd
      cases hd
      split at h
      · rename_i hlen
        obtain ⟨a, vs, rfl, hl, hs⟩ := w.g.list (.old r)
        have hsz : (assignEach es env).length = vs.toArray.size := by rw [q2]; simp [hs.length]; simpa using hlen
        rw [arm_assign_Tuple]
        refine wpAny_bind (wpAny_standAt ?_)
        unfold unpack
        rw [hsz, q3]
        refine wpAny_bind (wpAny_holding (unpackItems_list hh hl fun h' he => ?_))
        have w' : W c nm X env fa F ρ vars σ { s with heap := h' } := w.keep (Kp.mk' (tk := s.toks) (fun b o e => he b o (Nat.ne_of_lt (Heap.lt_size e)) e) (Nat.le_refl _))
        exact wpAny_assignInOrder (by simp [q2]) step w' hs h post
      · cases h
    · cases h
  · cases e

theorem assignEach_cons {t : Expr} {ts : List Expr} {T : Ev.T} (h1 : compT nm t = some T) : assignEach (t :: ts) env = (false, assign t env) :: assignEach ts env := by
  unfold compT at h1
  split at h1
  · rfl
  · rfl
  · cases h1

theorem wpAny_assignAll (hh : A.handled = none) : ∀ {ts : List Expr} {Ts : List Ev.T} {d : D} {v : Value} {vars vars' : Vars} {s : Shared} {σ : Sto} {F : FM} {ρ : List (List Addr)} {Q : Unit → Shared → Prop} {Ex : Value → Shared → Prop},
    ts.mapM (compT nm) = some Ts → asgTs Ts d vars = some vars' → W c nm X env fa F ρ vars σ s → Rv c.C F ρ v d → (∀ s', W c nm X env fa F ρ vars' σ s' → Q () s') →
    wpAny (model c.prog c.w) A (assignAll v ((assignEach ts env).map (·.2))) Q Ex s
  | [], Ts, d, v, vars, vars', s, σ, F, ρ, Q, Ex, hc, h, w, r, post => by
    simp at hc; subst hc
    simp [asgTs] at h; subst h
    exact wpAny_pure (post s w)
  | t :: ts, Ts, d, v, vars, vars', s, σ, F, ρ, Q, Ex, hc, h, w, r, post => by
    rw [List.mapM_cons] at hc
    obtain ⟨T, h1, h2⟩ := Option.bind_eq_some_iff.mp hc
    obtain ⟨Ts', h3, h4⟩ := Option.bind_eq_some_iff.mp h2
    cases h4
    unfold asgTs at h
    obtain ⟨vars1, h5, h6⟩ := Option.bind_eq_some_iff.mp h
    have ha := assignEach_cons (env := env) (ts := ts) h1
    rw [ha]
    have one := EvA.target (c := c) (X := X) (fa := fa) (env := env) (A := A) hh h1 h5
    cases ts with
    | nil =>
      simp at h3; subst h3
      simp [asgTs] at h6; subst h6
      exact one F ρ σ s v Q Ex w r post
    | cons t' ts' =>
      have he : ∃ f r, (assignEach (t' :: ts') env).map (·.2) = f :: r := by
        have h3' := h3
        rw [List.mapM_cons] at h3'
        obtain ⟨T', h7, _⟩ := Option.bind_eq_some_iff.mp h3'
        rw [assignEach_cons h7]
        exact ⟨_, _, rfl⟩
      obtain ⟨f, rr, he⟩ := he
      have hu : assignAll v (assign t env :: f :: rr) = (do holding [v] (assign t env v); assignAll v (f :: rr)) := rfl
      rw [List.map_cons, he, hu]
      refine wpAny_bind (wpAny_holding (one F ρ σ s v _ Ex w r fun s1 w1 => ?_))
      rw [← he]
      exact wpAny_assignAll hh h3 h6 w1 r post
end
end Ev
end
section
set_option maxRecDepth 100000
set_option autoImplicit false
set_option linter.all false
namespace Ev
open PySem PySem.W PySem.Calls PyProof.Rows PySem.SeqAt

/-! the order of the stores -/
theorem setVars_snoc : ∀ {is : List Nat} {ds : List D} {vars : Vars} {i : Nat} {d : D}, is.length = ds.length → setVars vars (is ++ [i]) (ds ++ [d]) = (setVars vars is ds).bind fun v => setVar v i d
  | [], [], vars, i, d, _ => by
    show (setVar vars i d).bind (fun v => setVars v [] []) = _
    cases h : setVar vars i d <;> simp [setVars, h]
  | [], _ :: _, _, _, _, h => by simp at h
  | _ :: _, [], _, _, _, h => by simp at h
  | j :: is, e :: ds, vars, i, d, h => by
    show (setVar vars j e).bind (fun v => setVars v (is ++ [i]) (ds ++ [d])) = ((setVar vars j e).bind fun v => setVars v is ds).bind fun v => setVar v i d
    rw [Option.bind_assoc]
    congr 1; funext v
    exact setVars_snoc (by simpa using h)
theorem setVar_comm {vars : Vars} {i j : Nat} {a b : D} (h : i ≠ j) : ((setVar vars i a).bind fun v => setVar v j b) = ((setVar vars j b).bind fun v => setVar v i a) := by
  unfold setVar
  by_cases hi : i < vars.length <;> by_cases hj : j < vars.length <;> simp [hi, hj, List.set_comm _ _ h]
theorem setVars_out : ∀ {is : List Nat} {ds : List D} {vars : Vars} {i : Nat} {d : D}, i ∉ is → ((setVar vars i d).bind fun v => setVars v is ds) = ((setVars vars is ds).bind fun v => setVar v i d)
  | [], [], vars, i, d, _ => by simp [setVars]
  | [], _ :: _, vars, i, d, _ => by simp [setVars]
  | _ :: _, [], vars, i, d, _ => by simp [setVars]
  | j :: is, e :: ds, vars, i, d, h => by
    simp only [List.mem_cons, not_or] at h
    show ((setVar vars i d).bind fun v => (setVar v j e).bind fun v => setVars v is ds) = (((setVar vars j e).bind fun v => setVars v is ds).bind fun v => setVar v i d)
    rw [← Option.bind_assoc, setVar_comm h.1, Option.bind_assoc, Option.bind_assoc]
    congr 1; funext v
    exact setVars_out h.2
theorem setVars_rev : ∀ {is : List Nat} {ds : List D} {vars : Vars}, is.Nodup → is.length = ds.length → setVars vars is.reverse ds.reverse = setVars vars is ds
  | [], [], _, _, _ => rfl
  | [], _ :: _, _, _, h => by simp at h
  | _ :: _, [], _, _, h => by simp at h
  | i :: is, d :: ds, vars, nd, h => by
    simp only [List.nodup_cons] at nd
    have hl : is.length = ds.length := by simpa using h
    rw [List.reverse_cons, List.reverse_cons, setVars_snoc (by simpa using hl), setVars_rev nd.2 hl, ← setVars_out nd.1]
    rfl

section
variable {c : Cx} {nm : Nm} {X : PMap} {fa : List (Option Addr)} {σ σ' σ1 σ2 σ3 : Sto} {env : Env} {vars vars' vars1 : Vars} {A : Around} {F F' : FM} {ρ ρ' : List (List Addr)} {s s' : Shared}

theorem nodup23 {names : List Str} (h : names.length = 2 ∨ names.length = 3) (e : names.eraseDups.length = names.length) : names.Nodup := by
  rcases h with h | h
  · match names, h with
    | [a, b], _ =>
      have : a ≠ b := by
        intro q; subst q
        simp [List.eraseDups_cons] at e
      simp [this]
  · match names, h with
    | [a, b, d], _ =>
      have h1 : a ≠ b := by
        intro q; subst q
        by_cases q2 : d = a
        · subst q2; simp [List.eraseDups_cons] at e
        · simp [List.eraseDups_cons, q2] at e
      have h2 : a ≠ d := by
        intro q; subst q
        have h1' : ¬ b = a := fun q => h1 q.symm
        simp [List.eraseDups_cons, h1'] at e
      have h3 : b ≠ d := by
        intro q; subst q
        have h1' : ¬ b = a := fun q => h1 q.symm
        simp [List.eraseDups_cons, h1'] at e
      simp [h1, h2, h3]

theorem filterMap_all {α β : Type} {f : α → Option β} : ∀ {l : List α}, (l.filterMap f).length = l.length → ∀ (k : Nat) x, l[k]? = some x → ∃ y, f x = some y ∧ (l.filterMap f)[k]? = some y
  | [], _, k, x, h => by simp at h
  | a :: l, hl, k, x, h => by
    rw [List.filterMap_cons] at hl ⊢
    cases e : f a with
    | none =>
      rw [e] at hl
      have := List.length_filterMap_le f l
      rw [List.length_cons] at hl
      dsimp only at hl
      omega
    | some y =>
      rw [e] at hl
      rw [List.length_cons, List.length_cons] at hl
      have hl := Nat.succ.inj hl
      cases k with
      | zero => simp at h; subst h; exact ⟨y, e, rfl⟩
      | succ k =>
        obtain ⟨z, q1, q2⟩ := filterMap_all hl k x (by simpa using h)
        exact ⟨z, q1, by simpa using q2⟩

/-- a tuple onto a tuple: as it comes, or in the opposite order by name -/
theorem swapped_tup {ts vs : List Expr} {n m : Nat} {p q : Pos} (hk : (vs.all (foldedForSure 8) || !(vs.all (constantsAlone 8))) = true) (hb : env.blockKind = .function) :
    swappedStores [.Tuple ts n p] (.Tuple vs m q) env = pure none ∨
    ∃ names : List Str, swappedStores [.Tuple ts n p] (.Tuple vs m q) env = pure (some names) ∧ names.Nodup ∧ names.length = ts.length ∧ ∀ (k : Nat) t, ts[k]? = some t → ∃ x pp, t = .Name x pp ∧ names[k]? = some x := by
  unfold swappedStores
  dsimp only
  split
  · exact .inl rfl
  · rename_i h1
    split
    · exact .inl rfl
    rename_i hst
    split
    · exact .inl rfl
    · rename_i h2
      split
      · exact .inl rfl
      · rename_i h3
        split
        · rename_i h4
          exfalso
          rw [h4] at hk
          simp only [Bool.not_true, Bool.or_false] at hk
          exact h3 hk
        · right
          refine ⟨_, rfl, ?_⟩
          rw [Bool.or_eq_true, not_or] at h1 h2
          have hd := Decidable.byContradiction (fun z => h2.1 (bne_iff_ne.mpr z))
          have he := Decidable.byContradiction (fun z => h2.2 (bne_iff_ne.mpr z))
          have ha := h1.1
          rw [Bool.or_eq_true, not_or] at ha
          have ha := ha.1
          have hlen : ts.length = 2 ∨ ts.length = 3 := by
            by_cases q2 : ts.length = 2
            · exact .inl q2
            · right
              by_cases q3 : ts.length = 3
              · exact q3
              · exact absurd (by simp [q2, q3]) ha
          refine ⟨nodup23 (by rw [hd]; exact hlen) he, hd, fun k t hkt => ?_⟩
          obtain ⟨y, q1, q2⟩ := filterMap_all hd k t hkt
          split at q1
          · rename_i id pos
            split at q1
            · cases q1; exact ⟨_, _, rfl, q2⟩
            · cases q1
          · cases q1

theorem ExS.asg {ts : List Expr} {Ts : List Ev.T} {v : Expr} {pos : Pos} {d : D} (hh : A.handled = none) (hkf : env.scope.kind = .function) (ho : asgOk v = true) (ht : ts.mapM (compT nm) = some Ts)
    (hs : swapsWithSole ts v pos.line env = pure false) (h : EvV c nm X env fa A (eval v env) vars σ d σ1) (e : asgTs Ts d vars = some vars') : ExS c nm X env fa A (exec (.Assign ts v pos) env) vars σ .next vars' σ1 := by
  have hbk : env.blockKind = .function := by unfold Env.blockKind; rw [hkf]; rfl
  have plain : swappedStores ts v env = pure none → ExS c nm X env fa A (exec (.Assign ts v pos) env) vars σ .next vars' σ1 := by
    intro hw F ρ s Q Ex w post
    refine wpAny_Assign_stores (h F ρ s _ Ex w fun F1 ρ1 u s1 l1 p1 w1 r1 => ?_) hs hw
    exact wpAny_assignAll hh ht e w1 r1 fun s2 w2 => post F1 ρ1 _ s2 l1 p1 w2 .next
  by_cases hsh : ∃ es n p vs m q, ts = [.Tuple es n p] ∧ v = .Tuple vs m q
  · obtain ⟨es, n, p, vs, m, q, rfl, rfl⟩ := hsh
    rcases swapped_tup (ts := es) (n := n) (m := m) (p := p) (q := q) ho hbk with hw | ⟨names, hw, hnd, hln, hget⟩
    · exact plain hw
    · intro F ρ s Q Ex w post
      rw [exec_Assign_arm]
      refine wpAny_bind (wpAny_standAt ?_)
      rw [hs]
      refine wpAny_bind (wpAny_pure ?_)
      rw [if_neg (by decide)]
      refine wpAny_bind (h F ρ s _ Ex w fun F1 ρ1 u s1 l1 p1 w1 r1 => ?_)
      rw [hw]
      refine wpAny_bind (wpAny_pure ?_)
      rw [List.mapM_cons] at ht
      obtain ⟨T, h1, h2⟩ := Option.bind_eq_some_iff.mp ht
      simp at h2; subst h2
      unfold compT at h1
      obtain ⟨is, h3, h4⟩ := Option.map_eq_some_iff.mp h1
      subst h4
      obtain ⟨q1, q2, q3, q4⟩ := compTs_get (env := env) h3
      unfold asgTs at e
      obtain ⟨vars2, e1, e2⟩ := Option.bind_eq_some_iff.mp e
      simp [asgTs] at e2; subst e2
      -- each name and its number
      have num : ∀ (k : Nat) x i, names[k]? = some x → is[k]? = some i → compTgt nm x = some i := by
        intro k x i a b
        have hk : k < (assignEach es env).length := by rw [q2]; exact (List.getElem?_eq_some_iff.mp b).1
        obtain ⟨t, ht'⟩ : ∃ t, ((assignEach es env).map (·.2))[k]? = some t := ⟨_, List.getElem?_eq_some_iff.mpr ⟨by simpa using hk, rfl⟩⟩
        obtain ⟨y, pp, z1, _, z2⟩ := q4 k t i ht' b
        obtain ⟨y', pp', z3, z4⟩ := hget k _ z1
        cases z3
        rw [a] at z4; cases z4
        exact z2
      have hnl : names.length = is.length := by rw [hln, q1]
      have hnI : is.Nodup := by
        refine List.pairwise_iff_getElem.mpr fun i j hi hj hij heq' => ?_
        have hxi : names[i]? = some (names[i]'(by omega)) := List.getElem?_eq_getElem (by omega)
        have hxj : names[j]? = some (names[j]'(by omega)) := List.getElem?_eq_getElem (by omega)
        have a1 := num i _ _ hxi (List.getElem?_eq_getElem hi)
        have a2 := num j _ _ hxj (List.getElem?_eq_getElem hj)
        rw [heq'] at a1
        obtain ⟨k1, b1, _⟩ := compTgt_idx a1
        obtain ⟨k2, b2, _⟩ := compTgt_idx a2
        have c1 := nmIdx_get b1
        have c2 := nmIdx_get b2
        rw [c1] at c2
        simp only [Option.some.injEq, Prod.mk.injEq] at c2
        exact List.pairwise_iff_getElem.mp hnd i j (by omega) (by omega) hij c2.1
      show wpAny _ _ (rule "assign.swapped-stores" >>= fun _ => unpackItems u names.length none >>= fun items => assignInOrder (names.reverse.map fun n => bindName env n) items.reverse >>= fun _ => (pure Flow.next : Sem Flow)) _ _ _
      refine wpAny_bind (wpAny_rule ?_)
      have fin : ∀ (vs' : List Value) (ds : List D) (s2 : Shared), W c nm X env fa F1 ρ1 vars σ1 s2 → Rvs c.C F1 ρ1 vs' ds → is.length = ds.length → setVars vars is ds = some vars2 →
          wpAny (model c.prog c.w) A (assignInOrder (names.reverse.map fun n => bindName env n) vs'.reverse >>= fun _ => (pure Flow.next : Sem Flow)) Q Ex s2 := by
        intro vs' ds s2 w2 rs hl hsv
        have hrev : Rvs c.C F1 ρ1 vs'.reverse ds.reverse := by
          have : ∀ {vs : List Value} {xs : List D}, Rvs c.C F1 ρ1 vs xs → Rvs c.C F1 ρ1 vs.reverse xs.reverse := by
            intro vs
            induction vs with
            | nil => intro xs h; cases h; exact .nil
            | cons v vs ih => intro xs h; cases h with | cons h hs => rw [List.reverse_cons, List.reverse_cons]; exact (ih hs).append (.cons h .nil)
          exact this rs
        refine wpAny_bind (wpAny_assignInOrder (is := is.reverse) (by simp [hnl]) ?_ w2 hrev (by rw [setVars_rev hnI hl]; exact hsv) fun s3 w3 => wpAny_pure (post F1 ρ1 _ s3 l1 p1 w3 .next))
        intro k t i a b vars vars' d hset
        rw [List.getElem?_map] at a
        obtain ⟨x, z1, rfl⟩ := Option.map_eq_some_iff.mp a
        have hk : k < is.length := by have := (List.getElem?_eq_some_iff.mp b).1; simpa using this
        rw [List.getElem?_reverse (by omega)] at z1
        rw [List.getElem?_reverse hk] at b
        rw [hnl] at z1
        exact EvA.bind (num _ x i z1 b) hset
      unfold asgT at e1
      split at e1
      · cases ‹Ev.T.tup is = Ev.T.var _›
      · rename_i is' ds hd
        cases hd
        split at e1
        · rename_i hlen
          have hlen' : is.length = ds.length := by simpa using hlen
          obtain ⟨a, vs', rfl, hl, hs'⟩ := w1.g.tuple (.old r1)
          have hsz : names.length = vs'.toArray.size := by rw [hnl]; simp [hs'.length]; exact hlen'
          rw [hsz]
          refine wpAny_bind (wpAny_unpackItems_tuple hh hl fun h' he => ?_)
          have w' : W c nm X env fa F1 ρ1 vars σ1 { s1 with heap := h' } := w1.keep (Kp.mk' (tk := s1.toks) (fun b o e => he b o (Nat.ne_of_lt (Heap.lt_size e)) e) (Nat.le_refl _))
          exact fin vs' ds _ w' hs' hlen' e1
        · cases e1
      · rename_i is' ds hd
        cases hd
        split at e1
        · rename_i hlen
          have hlen' : is.length = ds.length := by simpa using hlen
          obtain ⟨a, vs', rfl, hl, hs'⟩ := w1.g.list (.old r1)
          have hsz : names.length = vs'.toArray.size := by rw [hnl]; simp [hs'.length]; exact hlen'
          rw [hsz]
          refine wpAny_bind (unpackItems_list hh hl fun h' he => ?_)
          have w' : W c nm X env fa F1 ρ1 vars σ1 { s1 with heap := h' } := w1.keep (Kp.mk' (tk := s1.toks) (fun b o e => he b o (Nat.ne_of_lt (Heap.lt_size e)) e) (Nat.le_refl _))
          exact fin vs' ds _ w' hs' hlen' e1
        · cases e1
      · cases e1
  · refine plain ?_
    unfold swappedStores
    split
    · rename_i hm
      split at hm
      · cases hm; exact absurd ⟨_, _, _, _, _, _, rfl, rfl⟩ hsh
      · cases hm
        rw [List.mapM_cons] at ht
        obtain ⟨T, h1, h2⟩ := Option.bind_eq_some_iff.mp ht
        simp [compT] at h1
      · cases hm
    · rfl
end
end Ev
end
section
set_option maxRecDepth 100000
set_option autoImplicit false
set_option linter.all false
namespace Ev
open PySem PySem.W PySem.Calls PyProof.Rows PySem.SeqAt

/-- what a store of an attribute asks of the class -/
structure ClsSet (c : Cx) : Prop where
  set : findIn c.K (.ref c.C) "__setattr__" = some (some (.builtin "object.__setattr__"))
  over : plainOver c.K c.C = true
  taker : ∀ k, k < 5 → takerIn c.K c.C (attrName k) = some none

section
variable {c : Cx} {nm : Nm} {X : PMap} {fa : List (Option Addr)} {σ σ' σ1 σ2 σ3 : Sto} {env : Env} {vars vars' vars1 : Vars} {A : Around} {F F' : FM} {ρ ρ' : List (List Addr)} {s s' : Shared}

theorem setItem_exact {prog : Program} {w : World} {E : Value → Shared → Prop} {l : Addr} {vs : List Value} {n : Nat} {k : Int} {t : Tok} {v : Value} {Q : Unit → Shared → Prop} (ho : s.heap.get? l = some { cls := .type "list", data := .seq vs.toArray n })
    (h0 : 0 ≤ k) (hfit : k < 2 ^ 63) (hn : k.toNat < vs.length)
    (hQ : ∀ h', h'.get? l = some { cls := .type "list", data := .seq (vs.set k.toNat v).toArray n } → Heap.SameBut l s.heap h' → Q () { s with heap := h' }) :
    wpAny (model prog w) A (setItem (.ref l) (.int k t) v) Q E s := by
  have hl : s.heap.IsList l vs.toArray := ⟨_, ho, rfl, _, rfl⟩
  have hd : ({ cls := .type "list", data := .seq vs.toArray n } : Obj).data = .seq vs.toArray n := rfl
  unfold setItem
  try with_reducible refine wpAny_holding ?_
  first | refine wpAny_bind (wpAny_pure ?_) | skip
  refine wpAny_bind (wpAny_sequenceKey hl.typeIs (by decide) ?_)
  refine wpAny_bind (wpAny_callSpecial?_slot (name := Str.ofString "__setitem__") hl.typeIs slot_list_setitem
    (wpAny_call_entry slot_list_setitem hl.typeIs entry_list_setitem ?_ (args_list_setitem _ _ _)))
  show wpAny _ _ (Builtin.List.listSubscript? (.int k t) >>= _) _ _ s
  refine wpAny_bind (wpAny_listSubscript_int (fitsIndex_of h0 hfit) ?_)
  clear hfit
  obtain ⟨j, rfl⟩ := Int.eq_ofNat_of_zero_le h0
  have hj : j < vs.toArray.size := by simpa using hn
  have hx' : vs.toArray[j]? = some vs.toArray[j] := Array.getElem?_eq_getElem hj
  show wpAny _ _ ((seqItemAt l j >>= fun r => pure (r.map (j, ·))) >>= _) _ _ s
  refine wpAny_bind (wpAny_bind (wpAny_seqItemAt ho hd (wpAny_pure ?_)))
  rw [hx']
  show wpAny _ _ (setSeqItemAt l j v >>= _) _ _ s
  have hob : Obj.mapSeq (·.setIfInBounds j v) { cls := .type "list", data := .seq vs.toArray n } = { cls := .type "list", data := .seq (vs.set j v).toArray n } := by
    simp [Obj.mapSeq]
  have hfin : (s.heap.update l (Obj.mapSeq (·.setIfInBounds j v))).get? l = some { cls := .type "list", data := .seq (vs.set j v).toArray n } := by
    rw [Heap.get?_update_self _ ho (by rw [hob]; rfl), hob]
  refine wpAny_bind (wpAny_setSeqItemAt ho hd ?_)
  first
    | exact wpAny_bind (wpAny_pure (wpAny_pure ⟨.none, rfl, wpAny_pure (hQ _ hfin (Heap.SameBut.update ..))⟩))
    | exact wpAny_pure ⟨.none, rfl, wpAny_pure (hQ _ hfin (Heap.SameBut.update ..))⟩

theorem swapsWith_other {v t : Expr} {line : Nat} (ht : ∀ x p, t ≠ .Name x p) : swapsWith v (some t) line env = pure false := by
  unfold swapsWith
  cases v <;> try rfl
  all_goals
    dsimp only
    cases t <;> first | rfl | exact absurd rfl (ht _ _)
theorem swapsOther {v t : Expr} {line : Nat} (ht : ∀ x p, t ≠ .Name x p) : swapsWithSole [t] v line env = pure false := swapsWith_other ht

theorem ExS.setIdx {o i v : Expr} {p pos : Pos} {d : D} {l : Nat} {k : Int} {xs : List D} (hv : EvV c nm X env fa A (eval v env) vars σ d σ1) (ho : EvV c nm X env fa A (eval o env) vars σ1 (.loc l) σ2) (hi : EvV c nm X env fa A (eval i env) vars σ2 (.int k) σ3)
    (hl : σ3[l]? = some (some (.lst xs))) (hk : 0 ≤ k ∧ small k = true ∧ k.toNat < xs.length) :
    ExS c nm X env fa A (exec (.Assign [.Subscript o i p] v pos) env) vars σ .next vars (σ3.set l (some (.lst (xs.set k.toNat d)))) := by
  intro F ρ s Q Ex w post
  have hsm : k.natAbs < 2 ^ 62 := of_decide_eq_true hk.2.1
  refine wpAny_Assign_Subscript (hv F ρ s _ Ex w fun F1 ρ1 v1 s1 l1 p1 w1 r1 => ho F1 ρ1 s1 _ Ex w1 fun F2 ρ2 v2 s2 l2 p2 w2 r2 => hi F2 ρ2 s2 _ Ex w2 fun F3 ρ3 v3 s3 l3 p3 w3 r3 => ?_) (swapsWith_other (fun _ _ h => by cases h))
  cases r3 with
  | int _ t =>
  obtain ⟨a, vs, n, rfl, q1, q2, q3⟩ := w3.g.live (r2.mono l3 p3) hl
  refine setItem_exact q2 hk.1 (by omega) (by rw [q3.length]; exact hk.2.2) fun h' hg hs => ?_
  have rr := r1.mono (l2.trans l3) (p2.trans p3)
  exact post F3 ρ3 _ _ ((l1.trans l2).trans l3) ((p1.trans p2).trans p3) (w3.turn (tk := s3.toks) hl q1 (fun b o' hb e => (hs.2 b (by simpa using hb)).trans e) (.lst hg (q3.set _ rr)) (fun b hb => by simp at hb; subst hb; exact ⟨_, hg⟩) (Nat.le_refl _)) .next

theorem Ra.none : ∀ {es : List DictEntry} {as : List (Nat × D)} {k : Nat}, k < 5 → Ra c.C F ρ es as → as.lookup k = none → getL (attrName k) es = some none ∧ (∀ e ∈ es, e.key.isStr (attrName k) = false)
  | _, [], k, _, h, _ => by cases h; exact ⟨rfl, fun e he => by simp at he⟩
  | _, (j, x) :: as, k, hk5, h, e => by
    cases h with
    | @cons hs t v _ _ es _ hk hv hr =>
      have hb : (Value.str (attrName j) t).isStr (attrName k) = (j == k) := attrName_inj j hk k hk5
      have hjk : (j == k) = false := by
        rw [beq_eq_false_iff_ne]; intro q; subst q
        rw [List.lookup_cons, beq_self_eq_true] at e; cases e
      have hkj : (k == j) = false := by rw [beq_eq_false_iff_ne] at hjk ⊢; exact fun q => hjk q.symm
      rw [List.lookup_cons, hkj] at e
      obtain ⟨h1, h2⟩ := Ra.none hk5 hr e
      refine ⟨?_, fun e he => ?_⟩
      · unfold getL at h1 ⊢
        rw [List.find?_cons, hb, hjk]
        dsimp only
        cases hf : es.find? (·.key.isStr (attrName k)) with
        | none =>
          rw [hf] at h1
          dsimp only at h1
          have : (List.any (⟨hs, .str (attrName j) t, v⟩ :: es) fun x => x.refKey) = es.any (·.refKey) := rfl
          rw [this]; exact h1
        | some en => rw [hf] at h1; cases h1
      · rcases List.mem_cons.mp he with rfl | he
        · exact hb.trans hjk
        · exact h2 e he
theorem putL_new {name : Str} {hsh : Int} {key v : Value} : ∀ {es : List DictEntry}, (∀ e ∈ es, e.key.isStr name = false) → putL name hsh key v es = es ++ [⟨hsh, key, v⟩]
  | [], _ => rfl
  | e :: r, h => by
    unfold putL
    rw [h e (by simp)]
    simp only [Bool.false_eq_true, if_false, List.cons_append]
    rw [putL_new fun e he => h e (by simp [he])]
theorem Ra.snoc {hsh : Int} {t : Tok} {v : Value} {k : Nat} {d : D} (hk : k < 5) (hv : Rv c.C F ρ v d) : ∀ {es : List DictEntry} {as : List (Nat × D)}, Ra c.C F ρ es as → Ra c.C F ρ (es ++ [⟨hsh, .str (attrName k) t, v⟩]) (as ++ [(k, d)])
  | _, [], h => by cases h; exact .cons hk hv .nil
  | _, (_, _) :: _, h => by cases h with | cons hk' hv' hr => exact .cons hk' hv' (Ra.snoc hk hv hr)
theorem Ra.length {es : List DictEntry} : ∀ {as : List (Nat × D)}, Ra c.C F ρ es as → es.length = as.length := by
  induction es with
  | nil => intro as h; cases h; rfl
  | cons e es ih => intro as h; cases h with | cons _ _ hr => simp [ih hr]

theorem setAttr_exact {E : Value → Shared → Prop} {x dx : Addr} {es : List DictEntry} {n k : Nat} {as : List (Nat × D)} {v : Value} {Q : Unit → Shared → Prop} (XK : c.K.In s.heap) (C : ClsOk c) (S : ClsSet c) (hx : s.heap.get? x = some (instObj c.C dx)) (hdx : s.heap.get? dx = some (dictOf es n))
    (hr : Ra c.C F ρ es as) (hk : k < 5) (hno : as.lookup k = none) (hlen : as.length < 20)
    (h : ∀ hsh tk h', h'.get? dx = some (dictOf (es ++ [⟨hsh, .str (attrName k) tk, v⟩]) (n + 1)) → Heap.SameBut dx s.heap h' → Q () { s with heap := h', toks := s.toks + 2 }) : wpAny (model c.prog c.w) A (setAttr (.ref x) (attrName k) v) Q E s := by
  have I : InstAt s.heap x (instObj c.C dx) c.C (some (dictOf es n)) := ⟨hx, rfl, rfl, hdx⟩
  obtain ⟨q1, q2⟩ := hr.none hk hno
  refine set_plain XK I S.set (osa_open (s := { s with toks := s.toks + 1 }) XK I S.over (S.taker k hk) fun b => ?_)
  obtain ⟨cd, hc, hd'⟩ := any_some C.hasDict
  dsimp only
  have hput : Obj.putName (attrName k) (PyData.keyHash c.w.params (attrName k)) (.str (attrName k) (s.toks + 1)) v (dictOf es n) = dictOf (es ++ [⟨PyData.keyHash c.w.params (attrName k), .str (attrName k) (s.toks + 1), v⟩]) (n + 1) := by
    rw [putName_dict, putL_new q2]
    have : putN (attrName k) es n = n + 1 := by
      unfold putN
      have : es.any (·.key.isStr (attrName k)) = false := by rw [List.any_eq_false]; intro e he; simp [q2 e he]
      rw [this]; rfl
    rw [this]
  have hget : (s.heap.update dx (Obj.putName (attrName k) (PyData.keyHash c.w.params (attrName k)) (.str (attrName k) (s.toks + 1)) v)).get? dx = some (dictOf (es ++ [⟨PyData.keyHash c.w.params (attrName k), .str (attrName k) (s.toks + 1), v⟩]) (n + 1)) := by
    rw [Heap.get?_update_self _ hdx (by rw [hput]; rfl), hput]
  refine wpAny_bind (wpAny_pure (wpAny_bind (wpAny_bind (wpAny_loadPart hx (wpAny_bind (Looks.here (s := { s with toks := s.toks + 1 }) (looks_clsIn XK hc) ?_))))))
  rw [hd']
  refine wpAny_pure (a := some dx) (wpAny_bind (wpAny_pure (wpAny_bind ?_)))
  unfold nsSet
  refine wpAny_bind (wpAny_bind (wpAny_askSetting (wpAny_pure (wpAny_bind (wpAny_mkText (wpAny_bind (wpAny_loadPart hdx ?_)))))))
  dsimp only
  have hno' : (!es.toArray.any (·.key.isStr (attrName k)) && es.toArray.any (·.refKey)) = false := by
    rw [← Array.any_toList, ← Array.any_toList]
    have : es.any (·.refKey) = false := hr.norefs
    rw [show es.toArray.toList = es from rfl, this, Bool.and_false]
  rw [aRefKeyMayBeTheName_at, hno']
  refine wpAny_updatePart hdx ?_
  refine wpAny_bind (wpAny_lookBehind hget (pastItsLine_dict (by rw [List.size_toArray, sizeLine_eq]; simp [hr.length]; omega)) ?_)
  exact wpAny_pure (h _ _ _ hget (Heap.SameBut.update ..))

theorem ExS.setAttr {o v : Expr} {y : Str} {p pos : Pos} {d : D} {l k : Nat} {as : List (Nat × D)} (Z : Bas c) (C : ClsOk c) (S : ClsSet c) (hv : EvV c nm X env fa A (eval v env) vars σ d σ1) (ho : EvV c nm X env fa A (eval o env) vars σ1 (.loc l) σ2) (hy : attrIdx y = some k)
    (hl : σ2[l]? = some (some (.inst as))) (hk : as.lookup k = none ∧ as.length < 20) :
    ExS c nm X env fa A (exec (.Assign [.Attribute o y p] v pos) env) vars σ .next vars (σ2.set l (some (.inst (as ++ [(k, d)])))) := by
  intro F ρ s Q Ex w post
  obtain ⟨rfl, hk5⟩ := attrIdx_name hy
  refine wpAny_Assign_stores (hv F ρ s _ Ex w fun F1 ρ1 v1 s1 l1 p1 w1 r1 => ?_) (swapsOther (t := .Attribute o (attrName k) p) (fun _ _ h => by cases h)) rfl
  show wpAny _ _ (holding [v1] (eval o env) >>= fun ov => standAt p.atName >>= fun _ => holding [v1, ov] (PySem.setAttr ov (attrName k) v1) >>= fun _ => release [v1, ov] []) _ _ _
  refine wpAny_bind (wpAny_holding (ho F1 ρ1 s1 _ Ex w1 fun F2 ρ2 v2 s2 l2 p2 w2 r2 => wpAny_bind (wpAny_standAt (wpAny_bind (wpAny_holding ?_)))))
  cases r2 with
  | @loc a _ hl2 =>
  obtain ⟨r, q1, q2⟩ := w2.g.objs l _ hl
  obtain ⟨r', hl2⟩ := hl2
  rw [q1] at hl2; cases hl2
  cases q2 with
  | @inst _ dx es n _ hx hdx hr =>
  have hne : a ≠ dx := fun q => by subst q; rw [hx] at hdx; cases hdx
  refine setAttr_exact (w2.g.K Z) C S hx hdx hr hk5 hk.1 hk.2 fun hsh tk h' hg hs => wpAny_release ?_
  have rr := r1.mono l2 p2
  have hx' : h'.get? a = some (instObj c.C dx) := (hs.2 a hne).trans hx
  exact post F2 ρ2 _ _ (l1.trans l2) (p1.trans p2) (w2.turn (tk := s2.toks + 2) hl q1 (fun b o' hb e => (hs.2 b (by simp at hb; exact hb.2)).trans e) (.inst hx' hg (hr.snoc hk5 rr))
    (fun b hb => by simp at hb; rcases hb with rfl | rfl; exact ⟨_, hx'⟩; exact ⟨_, hg⟩) (by omega)) .next

/-- a comprehension whose list goes to a use of its own before its frame goes -/
def EvU (c : Cx) (nm : Nm) (X : PMap) (env : Env) (fa : List (Option Addr)) (A : Around) (value : Expr) (vars : Vars) (σ : Sto) (d : D) (σ' : Sto) : Prop :=
  ∀ F ρ s (u : Value → Sem Unit) vars' Q Ex, W c nm X env fa F ρ vars σ s → (∀ X', EvA c nm X' env fa A u d vars vars') →
    (∀ F' ρ' s', PLe F F' → ρ <+: ρ' → W c nm X env fa F' ρ' vars' σ' s' → Q () s') → wpAny (model c.prog c.w) A (evalThenUse value env u) Q Ex s

theorem ExS.asgU {t v : Expr} {T : Ev.T} {pos : Pos} {d : D} (hh : A.handled = none) (ht : compT nm t = some T)
    (hs : swapsWithSole [t] v pos.line env = pure true) (h : EvU c nm X env fa A v vars σ d σ1) (e : asgTs [T] d vars = some vars') : ExS c nm X env fa A (exec (.Assign [t] v pos) env) vars σ .next vars' σ1 := by
  intro F ρ s Q Ex w post
  rw [exec_Assign_arm]
  refine wpAny_bind (wpAny_standAt ?_)
  rw [hs]
  refine wpAny_bind (wpAny_pure ?_)
  rw [if_pos rfl]
  refine wpAny_bind (h F ρ s _ vars' _ Ex w (fun X' F1 ρ1 σ' s1 u Q' Ex' w1 r1 k => ?_) fun F1 ρ1 s1 l1 p1 w1 => wpAny_pure (post F1 ρ1 _ s1 l1 p1 w1 .next))
  exact wpAny_assignAll hh (ts := [t]) (by rw [List.mapM_cons]; simp [ht]) e w1 r1 k
end
end Ev
end
section
set_option maxRecDepth 100000
set_option autoImplicit false
set_option linter.all false
namespace Ev
open PySem PySem.W PySem.Calls PyProof.Rows PySem.SeqAt

/-- an iterator over ds, at the i-th by St i; own: what it owns -/
structure Iter (c : Cx) (A : Around) (tg : Expr) (I : Addr) (fp own : List Addr) (F0 : FM) (ρ0 : List (List Addr)) (ds : List D) (St : Nat → Heap → Prop) : Prop where
  frame : ∀ i h h', St i h → (∀ b ∈ fp, ∀ o, h.get? b = some o → h'.get? b = some o) → St i h'
  live : ∀ i h, St i h → ∀ b ∈ own, ∃ o, h.get? b = some o ∧ ∀ w, o.data ≠ .cell w
  frozen : ∀ b ∈ fp, b ∈ own ∨ ∃ o, F0.o b = some o
  turn : ∀ (i : Nat) (d : D) (s : Shared) (Q : Value → Shared → Prop) (E : Value → Shared → Prop), ds[i]? = some d → St i s.heap →
    (∀ v s', (∀ b o, b ∉ own → s.heap.get? b = some o → s'.heap.get? b = some o) → s'.gens = s.gens → s'.os = s.os → s.toks ≤ s'.toks → St (i + 1) s'.heap → Res c F0 ρ0 s s' v d → Q v s') →
    wpAny (model c.prog c.w) A (pyNext (.ref I)) (fun r s1 => ∃ v, r = some v ∧ wpAny (model c.prog c.w) A (letOwnedTupleGo tg (.ref I) v) (fun _ s2 => Q v s2) E s1) E s
  done : ∀ (s : Shared) (Q : Option Value → Shared → Prop) (E : Value → Shared → Prop), St ds.length s.heap →
    (∀ s', (∀ b o, b ∉ own → s.heap.get? b = some o → s'.heap.get? b = some o) → s'.gens = s.gens → s'.os = s.os → s.toks ≤ s'.toks → Q none s') → wpAny (model c.prog c.w) A (pyNext (.ref I)) Q E s
  self : ∀ i (s : Shared) (Q : Value → Shared → Prop) (E : Value → Shared → Prop), St i s.heap → Q (.ref I) s → wpAny (model c.prog c.w) A (pyIter (.ref I)) Q E s

section
variable {c : Cx} {nm : Nm} {X : PMap} {fa : List (Option Addr)} {σ σ' σ1 σ2 σ3 : Sto} {env : Env} {vars vars' vars1 : Vars} {A : Around} {F F' F0 : FM} {ρ ρ' ρ0 : List (List Addr)} {s s' : Shared} {fl : Flw}

theorem Res.mono {v : Value} {d : D} (r : Res c F ρ s s' v d) (hF : PLe F F') (hρ : ρ <+: ρ') : Res c F' ρ' s s' v d := by
  cases r with
  | old r => exact .old (r.mono hF hρ)
  | flt h0 h1 h2 => exact .flt h0 h1 h2
  | tup h0 ho hc hd hs => exact .tup h0 ho hc hd (hs.mono hF hρ)
  | lst h0 ho hc hd hs => exact .lst h0 ho hc hd (hs.mono hF hρ)

theorem W.keepBut {own : List Addr} (w : W c nm X env fa F ρ vars σ s) (hg : GuardOk F X fa ρ σ own) (hk : ∀ b o, b ∉ own → s.heap.get? b = some o → s'.heap.get? b = some o) (h1 : s'.gens = s.gens) (h2 : s'.os = s.os) (h3 : s.toks ≤ s'.toks) : W c nm X env fa F ρ vars σ s' := by
  refine ⟨w.g.to (fun b o hb e => hk b o (fun hin => ?_) e) h1 h2 h3, w.f.to PLe.rfl (List.prefix_refl _) fun i a o hi e => hk a o (fun hin => (hg a hin).2.2 (.fr i) trivial (adrs_fr.mpr hi)) e⟩
  obtain ⟨q1, q2, q3⟩ := hg b hin
  rcases hb with hb | hb | ⟨t, hl, hm⟩
  · rw [q1] at hb; cases hb
  · rw [q2] at hb; cases hb
  · exact q3 t hl hm

/-- the same, the new value frozen -/
theorem W.res2 {own : List Addr} (w : W c nm X env fa F ρ vars σ s) (w' : W c nm X env fa F ρ vars σ s') (hg : GuardOk F X fa ρ σ own) (hl : ∀ b ∈ own, ∃ o, s.heap.get? b = some o) {v : Value} {d : D} (r : Res c F ρ s s' v d) :
    ∃ F', PLe F F' ∧ W c nm X env fa F' ρ vars σ s' ∧ GuardOk F' X fa ρ σ own ∧ Rv c.C F' ρ v d := by
  have guard : ∀ {a : Addr} {o : Obj}, s.heap.get? a = none → GuardOk (updF F a o) X fa ρ σ own := by
    intro a o h0 b hb
    obtain ⟨q1, q2, q3⟩ := hg b hb
    refine ⟨?_, q2, q3⟩
    show upd F.o a o b = none
    rw [upd_ne]; exact q1
    intro e; subst e
    obtain ⟨o', e⟩ := hl b hb
    rw [h0] at e; cases e
  cases r with
  | old r => exact ⟨F, PLe.rfl, w', hg, r⟩
  | @flt x t hp h1 h2 =>
    have h0 : F.t t = none := by
      cases e : F.t t with
      | none => rfl
      | some y => exact absurd (Nat.lt_of_le_of_lt h1 (w.g.ft t y e).2) (Nat.lt_irrefl _)
    have le : PLe F { F with t := fun u => if u = t then some x else F.t u } := ⟨fun _ _ e => e, fun u y e => by
      dsimp only; split
      · rename_i q; rw [q, h0] at e; cases e
      · exact e⟩
    refine ⟨_, le, w'.intoG { f := w'.g.f, x := w'.g.x, fx := w'.g.fx, base := w'.g.base, apart := w'.g.apart, own := w'.g.own, objs := fun l m e => ?_, len := w'.g.len, gens := w'.g.gens, os := w'.g.os, tpos := w'.g.tpos, ft := fun u y e => ?_ } le (List.prefix_refl _), hg, .flt (by simp)⟩
    · obtain ⟨r, q1, q2⟩ := w'.g.objs l m e
      exact ⟨r, q1, q2.mono le (List.prefix_refl _) fun _ _ _ h => h⟩
    · dsimp only at e; split at e
      · rename_i q; subst q
        exact ⟨Nat.lt_of_lt_of_le hp h1, h2⟩
      · exact w'.g.ft u y e
  | @tup a o vs n xs h0 ho hc hd hs =>
    obtain ⟨h1, h2, h3⟩ := w.g.fresh h0
    have le := upd_le (o := o) h1
    exact ⟨_, le, w'.intoG (w'.g.freezeAt ho h1 h2 h3) le (List.prefix_refl _), guard h0, .tup upd_self hc hd (hs.mono le (List.prefix_refl _))⟩
  | @lst a o vs n xs h0 ho hc hd hs =>
    obtain ⟨h1, h2, h3⟩ := w.g.fresh h0
    have le := upd_le (o := o) h1
    exact ⟨_, le, w'.intoG (w'.g.freezeAt ho h1 h2 h3) le (List.prefix_refl _), guard h0, .lst upd_self hc hd (hs.mono le (List.prefix_refl _))⟩

theorem Iter.step {tg : Expr} {I : Addr} {fp own : List Addr} {ds : List D} {St : Nat → Heap → Prop} (it : Iter c A tg I fp own F0 ρ0 ds St) (w : W c nm X env fa F ρ vars σ s) (hg : GuardOk F X fa ρ σ own) (le : PLe F0 F) (hp : ρ0 <+: ρ)
    {i : Nat} {d : D} (hd : ds[i]? = some d) (st : St i s.heap) {Q : Value → Shared → Prop} {E : Value → Shared → Prop}
    (post : ∀ v s' F', PLe F F' → W c nm X env fa F' ρ vars σ s' → GuardOk F' X fa ρ σ own → St (i + 1) s'.heap → Rv c.C F' ρ v d → Q v s') :
    wpAny (model c.prog c.w) A (pyNext (.ref I)) (fun r s1 => ∃ v, r = some v ∧ wpAny (model c.prog c.w) A (letOwnedTupleGo tg (.ref I) v) (fun _ s2 => Q v s2) E s1) E s := by
  refine it.turn i d s Q E hd st fun v s' hk h1 h2 h3 st' r => ?_
  have w' := w.keepBut hg hk h1 h2 h3
  obtain ⟨F', l, w2, g2, r2⟩ := w.res2 w' hg (fun b hb => let ⟨o, e, _⟩ := it.live i _ st b hb; ⟨o, e⟩) (r.mono le hp)
  exact post v s' F' l w2 g2 st' r2

/-- after a turn that keeps what the iterator owns -/
theorem Iter.stay {tg : Expr} {I : Addr} {fp own : List Addr} {ds : List D} {St : Nat → Heap → Prop} (it : Iter c A tg I fp own F0 ρ0 ds St) {i : Nat} {h h' : Heap} (st : St i h) (hf : ∀ a o, F0.o a = some o → h.get? a = some o) (hf' : ∀ a o, F0.o a = some o → h'.get? a = some o)
    (hk : ∀ b ∈ own, ∀ o, h.get? b = some o → h'.get? b = some o) : St i h' := by
  refine it.frame i h h' st fun b hb o e => ?_
  rcases it.frozen b hb with ho | ⟨o', ho⟩
  · exact hk b ho o e
  · have := hf b o' ho
    rw [e] at this; cases this
    exact hf' b o ho

def EvI (c : Cx) (nm : Nm) (X : PMap) (env : Env) (fa : List (Option Addr)) (A : Around) (tg it : Expr) (vars : Vars) (σ : Sto) (ds : List D) (σ' : Sto) : Prop :=
  ∀ F ρ s (Q : Value → Shared → Prop) Ex, W c nm X env fa F ρ vars σ s →
    (∀ F' ρ' I fp own St s', PLe F F' → ρ <+: ρ' → W c nm X env fa F' ρ' vars σ' s' → Iter c A tg I fp own F' ρ' ds St → St 0 s'.heap → GuardOk F' X fa ρ' σ' own → Q (.ref I) s') →
    wpAny (model c.prog c.w) A (eval it env) (fun x s1 => wpAny (model c.prog c.w) A (pyIter x) Q Ex s1) Ex s

theorem ExS.forIn {t it : Expr} {T : Ev.T} {b : List Stmt} {pos : Pos} {ds : List D} {g : Vars → Sto → Option (Flw × Vars × Sto)} (hh : A.handled = none) (ht : compT nm t = some T) (hs : ∀ x, foldedSetIterable it env x = pure x)
    (hi : EvI c nm X env fa A t it vars σ ds σ1)
    (hb : ∀ X' vars σ fl vars' σ', g vars σ = some (fl, vars', σ') → ExS c nm X' env fa A (execs b env) vars σ fl vars' σ')
    (e : forD (fun d vars σ => (asgT T d vars).bind fun vars => g vars σ) ds vars σ1 = some (fl, vars', σ')) : ExS c nm X env fa A (exec (.For t it b [] pos) env) vars σ fl vars' σ' := by
  intro F ρ s Q Ex w post
  refine wpAny_For (hi F ρ s _ Ex w fun F1 ρ1 I fp own St s1 l1 p1 w1 it st hg => ?_) hs
  refine codeAny_forLoop_any (fun n s' => ∃ i F2 ρ2 vars2 σ2, n = ds.length + 1 - i ∧ i ≤ ds.length ∧ PLe F1 F2 ∧ ρ1 <+: ρ2 ∧ W c nm X env fa F2 ρ2 vars2 σ2 s' ∧ GuardOk F2 X fa ρ2 σ2 own ∧ St i s'.heap ∧
    forD (fun d vars σ => (asgT T d vars).bind fun vars => g vars σ) (ds.drop i) vars2 σ2 = some (fl, vars', σ')) ?_ (ds.length + 1) ⟨0, F1, ρ1, vars, σ1, by omega, Nat.zero_le _, PLe.rfl, List.prefix_refl _, w1, hg, st, by simpa using e⟩
  rintro n s2 ⟨i, F2, ρ2, vars2, σ2, rfl, hile, l2, p2, w2, hg2, st2, e2⟩
  by_cases hlt : i < ds.length
  · have hd : ds[i]? = some ds[i] := List.getElem?_eq_getElem hlt
    rw [List.drop_eq_getElem_cons hlt] at e2
    unfold forD at e2
    cases ha : asgT T ds[i] vars2 with
    | none => rw [ha] at e2; simp at e2
    | some vars3 =>
      rw [ha] at e2
      simp only [Option.bind_some] at e2
      cases hgv : g vars3 σ2 with
      | none => rw [hgv] at e2; cases e2
      | some r =>
        obtain ⟨fl3, vars4, σ4⟩ := r
        rw [hgv] at e2
        refine wpAny_mono (it.step w2 hg2 l2 p2 hd st2 (Q := fun v s3 => wpAny (model c.prog c.w) A (assign t env v) (fun _ s₂ => wpAny (model c.prog c.w) A (execs b env) (fun f s₃ => match f with
            | .next | .cont => ∃ m, m < ds.length + 1 - i ∧ ∃ i F2 ρ2 vars2 σ2, m = ds.length + 1 - i ∧ i ≤ ds.length ∧ PLe F1 F2 ∧ ρ1 <+: ρ2 ∧ W c nm X env fa F2 ρ2 vars2 σ2 s₃ ∧ GuardOk F2 X fa ρ2 σ2 own ∧ St i s₃.heap ∧
                forD (fun d vars σ => (asgT T d vars).bind fun vars => g vars σ) (ds.drop i) vars2 σ2 = some (fl, vars', σ')
            | .brk => Q .next s₃
            | .ret v => Q (.ret v) s₃) (notedBy (model c.prog c.w) A env fun e s' => cameBackBy (model c.prog c.w) A env Ex e s') s₂) (notedBy (model c.prog c.w) A env fun e s' => cameBackBy (model c.prog c.w) A env Ex e s') s3) ?_) (fun r s3 h3 => ?_) fun _ _ h => h
        · intro v s3 F3 l3 w3 hg3 st3 r3
          have hXn : ∀ b ∈ own, X b = none := fun b hb => (hg3 b hb).2.1
          have hlv : ∀ b ∈ own, ∃ o, s3.heap.get? b = some o ∧ ∀ w, o.data ≠ .cell w := fun b hb => it.live _ _ st3 b hb
          refine EvA.target (X := hid (· ∈ own) X s3.heap) hh ht ha F3 ρ2 σ2 s3 v _ _ (w3.guardL hg3) r3 fun s4 w4 => ?_
          refine hb _ _ _ _ _ _ hgv F3 ρ2 s4 _ _ w4 fun F5 ρ5 fx s5 l5 p5 w5 r5 => ?_
          obtain ⟨w6, k6, hg6⟩ := w5.unguardL hXn hlv
          have LL := l2.trans (l3.trans l5)
          have PP := p2.trans p5
          have st6 : St (i + 1) s5.heap := it.stay st3 (fun a o h => w3.g.f a o ((l2.trans l3).o a o h)) (fun a o h => w6.g.f a o (LL.o a o h)) k6
          cases r5 with
          | next => exact ⟨ds.length + 1 - (i + 1), by omega, i + 1, F5, ρ5, vars4, σ4, rfl, by omega, LL, PP, w6, hg6, st6, e2⟩
          | cont => exact ⟨ds.length + 1 - (i + 1), by omega, i + 1, F5, ρ5, vars4, σ4, rfl, by omega, LL, PP, w6, hg6, st6, e2⟩
          | brk => dsimp only at e2; cases e2; exact post F5 ρ5 .next s5 (l1.trans LL) (p1.trans PP) w6 .next
          | ret r => dsimp only at e2; cases e2; exact post F5 ρ5 _ s5 (l1.trans LL) (p1.trans PP) w6 (.ret r)
        · obtain ⟨v, rfl, h3⟩ := h3
          exact h3
  · have hi : i = ds.length := by omega
    subst hi
    rw [List.drop_length] at e2
    simp only [forD, Option.some.injEq, Prod.mk.injEq] at e2
    obtain ⟨rfl, rfl, rfl⟩ := e2
    refine it.done s2 _ _ st2 fun s3 hk h1 h2 h3 => wpAny_execs_nil ?_
    exact post F2 ρ2 .next s3 (l1.trans l2) (p1.trans p2) (w2.keepBut hg2 hk h1 h2 h3) .next
end
end Ev
end
section
set_option maxRecDepth 100000
set_option autoImplicit false
set_option linter.all false
namespace Ev
open PySem PySem.W PySem.Calls PyProof.Rows PySem.SeqAt

def biVal : Bi → Value
  | .len => .builtin "len" | .max => .builtin "max" | .min => .builtin "min" | .abs => .builtin "abs" | .round => .builtin "round" | .sum => .builtin "sum" | .sorted => .builtin "sorted" | .list => .type "list" | .tuple => .type "tuple" | .divmod => .builtin "divmod"
  | .range => .type "range" | .enumerate => .type "enumerate" | .zip => .type "zip"
theorem boot_bi : ∀ b, bootBuiltins (biName b) = some (biVal b) ∧ biName b ≠ "__name__" := by
  intro b
  cases b <;> exact ⟨by kernel_rfl, by decide +kernel⟩

/-- no name of a built-in is bound at the top -/
def BiFree (c : Cx) : Prop := ∀ b, nsIn c.K mainGlobals (biName b) = some none

section
variable {c : Cx} {nm : Nm} {X : PMap} {fa : List (Option Addr)} {σ σ' σ1 σ2 σ3 : Sto} {env : Env} {vars vars' vars1 : Vars} {A : Around} {F F' F0 : FM} {ρ ρ' ρ0 : List (List Addr)} {s s' : Shared} {fl : Flw}

theorem go_plain {M : Model} {E : Value → Shared → Prop} {tg : Expr} {I : Addr} {v : Value} {o : Obj} {T : String} {Q : Unit → Shared → Prop} (ho : s.heap.get? I = some o) (hc : o.cls = .type T)
    (hT : (["enumerate", "zip", "dict_itemiterator", "dict_reverseitemiterator", "odict_iterator", "itertools.zip_longest", "itertools.pairwise"].contains T) = false) (h : Q () s) : wpAny M A (letOwnedTupleGo tg (.ref I) v) Q E s := by
  unfold letOwnedTupleGo
  have tail : wpAny M A (do
      let (.ref r, .ref a) := (Value.ref I, v) | return
      let o ← load r
      match o.cls, o.data with
      | .type n, .fields vs =>
        if ["enumerate", "zip", "dict_itemiterator", "dict_reverseitemiterator", "odict_iterator", "itertools.zip_longest", "itertools.pairwise"].contains n && vs[0]? == some (rawInt a) then
          rule "for.unpacks-the-owned-tuple"
          updateField r 0 .none
      | _, _ => pure ()) Q E s := by
    cases v <;> try exact wpAny_pure h
    refine wpAny_bind (wpAny_load ho ?_)
    rw [hc]
    cases o.data <;> try exact wpAny_pure h
    dsimp only
    rw [hT]
    exact wpAny_pure h
  split
  · exact tail
  · exact tail
  · exact wpAny_pure h

theorem Iter.ofWalks {tg : Expr} {I : Addr} {fp own : List Addr} {n : Nat} {ds : List D} {P : Nat → Value → Prop} {St : Nat → Heap → Prop} (Wk : Walks c.prog c.w A I fp own n P St) (hn : ds.length = n)
    (live : ∀ i h, St i h → ∀ b ∈ own, ∃ o, h.get? b = some o ∧ ∀ w, o.data ≠ .cell w) (frozen : ∀ b ∈ fp, b ∈ own ∨ ∃ o, F0.o b = some o) (val : ∀ i v d, P i v → ds[i]? = some d → Rv c.C F0 ρ0 v d)
    (plain : ∀ i h, St i h → ∃ o T, h.get? I = some o ∧ o.cls = .type T ∧ (["enumerate", "zip", "dict_itemiterator", "dict_reverseitemiterator", "odict_iterator", "itertools.zip_longest", "itertools.pairwise"].contains T) = false) :
    Iter c A tg I fp own F0 ρ0 ds St where
  frame := Wk.frame
  live := live
  frozen := frozen
  turn := fun i d s Q E hd st hQ => by
    have hi : i < n := by rw [← hn]; exact (List.getElem?_eq_some_iff.mp hd).1
    refine wpAny_with_toks (n := s.toks) (Nat.le_refl _) (Wk.item i s _ _ hi st fun v h' tk hP st' hk ht => ⟨v, rfl, ?_⟩)
    obtain ⟨o, T, q1, q2, q3⟩ := plain _ _ st'
    have ht' : s.toks ≤ tk := ht
    exact go_plain (s := { s with heap := h', toks := tk }) q1 q2 q3 (hQ v _ hk rfl rfl ht' st' (.old (val i v d hP hd)))
  done := fun s Q E st hQ => by
    refine wpAny_with_toks (n := s.toks) (Nat.le_refl _) (Wk.done s _ _ (hn ▸ st) fun h' tk hk ht => ?_)
    have ht' : s.toks ≤ tk := ht
    exact hQ _ hk rfl rfl ht'
  self := Wk.self

theorem Iter.list {tg : Expr} {I a : Addr} {o : Obj} {vs : List Value} {n : Nat} {ds : List D} (hh : A.handled = none) (hne : a ≠ I) (ho : F0.o a = some o) (hs : Rvs c.C F0 ρ0 vs ds) :
    Iter c A tg I [I, a] [I] F0 ρ0 ds (fun i h => h.IsListIter I a i ∧ h.IsList a vs.toArray) :=
  Iter.ofWalks (Walks.list hh I a hne vs.toArray) (by simp [hs.length]) (fun i h st b hb => by simp at hb; subst hb; obtain ⟨⟨o, e1, _, e2⟩, _⟩ := st; exact ⟨o, e1, fun w q => by rw [e2] at q; cases q⟩)
    (fun b hb => by simp at hb; rcases hb with rfl | rfl; exact .inl (by simp); exact .inr ⟨_, ho⟩)
    (fun i v d hP hd => by obtain ⟨u, q1, q2⟩ := hs.get hd; simp at hP; rw [q1] at hP; cases hP; exact q2)
    (fun i h st => by obtain ⟨⟨o, e1, e2, _⟩, _⟩ := st; exact ⟨o, _, e1, e2, by decide⟩)
theorem Iter.tuple {tg : Expr} {I a : Addr} {o : Obj} {vs : List Value} {n : Nat} {ds : List D} (hh : A.handled = none) (hne : a ≠ I) (ho : F0.o a = some o) (hs : Rvs c.C F0 ρ0 vs ds) :
    Iter c A tg I [I, a] [I] F0 ρ0 ds (fun i h => h.IsTupleIter I a i ∧ h.IsTuple a vs.toArray) :=
  Iter.ofWalks (Walks.tuple hh I a hne vs.toArray) (by simp [hs.length]) (fun i h st b hb => by simp at hb; subst hb; obtain ⟨⟨o, e1, _, e2⟩, _⟩ := st; exact ⟨o, e1, fun w q => by rw [e2] at q; cases q⟩)
    (fun b hb => by simp at hb; rcases hb with rfl | rfl; exact .inl (by simp); exact .inr ⟨_, ho⟩)
    (fun i v d hP hd => by obtain ⟨u, q1, q2⟩ := hs.get hd; simp at hP; rw [q1] at hP; cases hP; exact q2)
    (fun i h st => by obtain ⟨⟨o, e1, e2, _⟩, _⟩ := st; exact ⟨o, _, e1, e2, by decide⟩)

theorem isStrings_get : ∀ {a : List Nat} {i : Nat} {d : D}, (isStrings a)[i]? = some d → ∃ ch, a[i]? = some ch ∧ d = .str [ch]
  | [], i, d, h => by simp [isStrings] at h
  | ch :: r, 0, d, h => by simp [isStrings] at h; exact ⟨ch, rfl, h.symm⟩
  | ch :: r, i + 1, d, h => by simpa using isStrings_get (a := r) (i := i) (by simpa [isStrings] using h)
theorem isStrings_len : ∀ {a : List Nat}, (isStrings a).length = a.length
  | [] => rfl
  | _ :: r => by simp [isStrings, isStrings_len (a := r)]
theorem Iter.str {tg : Expr} {I : Addr} {a : List Nat} {t : Tok} (hh : A.handled = none) :
    Iter c A tg I [I] [I] F0 ρ0 (isStrings a) (fun i h => h.IsStrIter I "str_ascii_iterator" ⟨a.toArray⟩ t i) :=
  Iter.ofWalks (Walks.strAscii hh I ⟨a.toArray⟩ t) (by rw [isStrings_len]; simp) (fun i h st b hb => by simp at hb; subst hb; obtain ⟨o, e1, _, e2⟩ := st; exact ⟨o, e1, fun w q => by rw [e2] at q; cases q⟩)
    (fun b hb => .inl hb)
    (fun i v d hP hd => by obtain ⟨ch, q1, rfl⟩ := isStrings_get hd; obtain ⟨c', u, e1, rfl⟩ := hP; simp at e1; rw [q1] at e1; cases e1; exact .str [_] u)
    (fun i h st => by obtain ⟨o, e1, e2, _⟩ := st; exact ⟨o, _, e1, e2, by decide⟩)
theorem rangeD_get {a b : Int} {i : Nat} {d : D} (h : (rangeD a b)[i]? = some d) : d = .int (a + (i : Int)) := by
  unfold rangeD at h
  rw [List.getElem?_map] at h
  obtain ⟨k, h1, h2⟩ := Option.map_eq_some_iff.mp h
  rw [List.getElem?_range (by have := (List.getElem?_eq_some_iff.mp h1).1; simpa using this)] at h1
  cases h1
  exact h2.symm
theorem Iter.range {tg : Expr} {I : Addr} {a b : Int} (hh : A.handled = none) :
    Iter c A tg I [I] [I] F0 ρ0 (rangeD a b) (fun i h => IsRangeIter h I (a + (i : Nat) * 1) (((b - a).toNat : Int) - (i : Nat)) 1) :=
  Iter.ofWalks (Walks.range hh I a 1 (b - a).toNat) (by simp [rangeD]) (fun i h st b hb => by simp at hb; subst hb; exact ⟨_, st, fun w q => by cases q⟩)
    (fun b hb => .inl hb)
    (fun i v d hP hd => by obtain ⟨u, rfl⟩ := hP; rw [rangeD_get hd, Int.mul_one]; exact .int _ u)
    (fun i h st => ⟨_, _, st, rfl, by decide⟩)

/-- an iterator that hands out its own tuple -/
theorem Iter.ofWalksT {elts : List Expr} {kk : Nat} {pos : Pos} {I : Addr} {fp wr own : List Addr} {n : Nat} {ds : List D} {P : Nat → Array Value → Prop} {St : Nat → Heap → Prop} {Mid : Nat → Addr → Heap → Prop} (Wk : WalksT c.prog c.w A I fp wr n P St Mid) (hn : ds.length = n)
    (hwo : ∀ b ∈ wr, b ∈ own) (live : ∀ i h, St i h → ∀ b ∈ own, ∃ o, h.get? b = some o ∧ ∀ w, o.data ≠ .cell w) (frozen : ∀ b ∈ fp, b ∈ own ∨ ∃ o, F0.o b = some o)
    (val : ∀ i vals d, P i vals → ds[i]? = some d → ∃ xs, d = .tup xs ∧ Rvs c.C F0 ρ0 vals.toList xs) :
    Iter c A (.Tuple elts kk pos) I fp own F0 ρ0 ds St where
  frame := Wk.frame
  live := live
  frozen := frozen
  turn := fun i d s Q E hd st hQ => by
    have hi : i < n := by rw [← hn]; exact (List.getElem?_eq_some_iff.mp hd).1
    refine wpAny_with_toks (n := s.toks) (Nat.le_refl _) (Wk.item i s _ _ hi st fun T vals h1 tk hP hsz hT hm hk ht => ⟨.ref T, rfl, ?_⟩)
    have ht' : s.toks ≤ tk := ht
    refine Wk.go elts kk pos i T _ _ E hm fun h2 st2 hk2 => ?_
    obtain ⟨xs, rfl, hr⟩ := val i vals d hP hd
    obtain ⟨o, e1, e2, m, e3⟩ := hT
    have e1' : h2.get? T = some o := hk2 T o (Wk.apart i T _ hm) e1
    refine hQ (.ref T) _ (fun b o hb e => hk2 b o (fun q => hb (hwo b q)) (hk b o (fun q => hb (hwo b q)) e)) rfl rfl ht' st2 (.tup (vs := vals.toList) (n := m) (none_of_ge hsz) e1' e2 (by simpa using e3) hr)
  done := fun s Q E st hQ => by
    refine wpAny_with_toks (n := s.toks) (Nat.le_refl _) (Wk.done s _ _ (hn ▸ st) fun h' tk hk ht => ?_)
    have ht' : s.toks ≤ tk := ht
    exact hQ _ (fun b o hb e => hk b o (fun q => hb (hwo b q)) e) rfl rfl ht'
  self := Wk.self

theorem enumD_get : ∀ {xs : List D} {k i : Nat} {d : D}, (enumD k xs)[i]? = some d → ∃ x, xs[i]? = some x ∧ d = .tup [.int ((k + i : Nat) : Int), x]
  | [], k, i, d, h => by simp [enumD] at h
  | x :: xs, k, 0, d, h => by simp [enumD] at h; exact ⟨x, rfl, by simp [← h]⟩
  | x :: xs, k, i + 1, d, h => by
    obtain ⟨y, q1, q2⟩ := enumD_get (xs := xs) (k := k + 1) (i := i) (by simpa [enumD] using h)
    exact ⟨y, by simpa using q1, by rw [q2, show k + 1 + i = k + (i + 1) by omega]⟩
theorem enumD_len : ∀ {xs : List D} {k : Nat}, (enumD k xs).length = xs.length
  | [], _ => rfl
  | _ :: r, k => by simp [enumD, enumD_len (xs := r)]
theorem zipD_get : ∀ {xs ys : List D} {i : Nat} {d : D}, (zipD xs ys)[i]? = some d → ∃ x y, xs[i]? = some x ∧ ys[i]? = some y ∧ d = .tup [x, y]
  | [], _, i, d, h => by simp [zipD] at h
  | _ :: _, [], i, d, h => by simp [zipD] at h
  | x :: xs, y :: ys, 0, d, h => by simp [zipD] at h; exact ⟨x, y, rfl, rfl, h.symm⟩
  | x :: xs, y :: ys, i + 1, d, h => by simpa using zipD_get (xs := xs) (ys := ys) (i := i) (by simpa [zipD] using h)
theorem zipD_len : ∀ {xs ys : List D}, (zipD xs ys).length = min xs.length ys.length
  | [], _ => by simp [zipD]
  | _ :: _, [] => by simp [zipD]
  | _ :: xs, _ :: ys => by simp [zipD, zipD_len (xs := xs) (ys := ys)]

theorem guard1 {a : Addr} (w : W c nm X env fa F ρ vars σ s) (h : s.heap.get? a = none) : F.o a = none ∧ X a = none ∧ ∀ t, liveT σ t → a ∉ adrs fa ρ t := w.g.fresh h

theorem EvI.of {tg it : Expr} {d d' : D} {ds : List D} (hh : A.handled = none) (h : EvV c nm X env fa A (eval it env) vars σ d σ1) (hf : Ev.frz σ1 d = some (d', σ')) (hi : itemsOf d' = some ds) : EvI c nm X env fa A tg it vars σ ds σ' := by
  intro F ρ s Q Ex w post
  refine h F ρ s _ Ex w fun F1 ρ1 v s1 l1 p1 w1 r1 => ?_
  obtain ⟨F2, l2, w2, r2⟩ := w1.frz r1 hf
  have hfr := guard1 w2 (none_at_size s1.heap)
  have hgo : GuardOk F2 X fa ρ1 σ' [s1.heap.objs.size] := fun b hb => by simp at hb; subst hb; exact hfr
  unfold itemsOf at hi
  split at hi
  · rename_i xs
    cases hi
    cases r2 with
    | @lst a o vs n _ ho hc hd hs =>
    have hl : s1.heap.IsList a vs.toArray := ⟨_, w2.g.f _ _ ho, hc, _, hd⟩
    have hne : a ≠ s1.heap.objs.size := Nat.ne_of_lt (Heap.lt_size (w2.g.f _ _ ho))
    refine wpAny_pyIter_list hl ?_
    exact post F2 ρ1 _ _ _ _ _ (l1.trans l2) p1 (w2.keep .push) (Iter.list (n := n) hh hne ho hs) ⟨⟨_, Heap.get?_push_size _ rfl, rfl, rfl⟩, hl.push _⟩ hgo
  · rename_i xs
    cases hi
    cases r2 with
    | @tup a o vs n _ ho hc hd hs =>
    have hl : s1.heap.IsTuple a vs.toArray := ⟨_, w2.g.f _ _ ho, hc, _, hd⟩
    have hne : a ≠ s1.heap.objs.size := Nat.ne_of_lt (Heap.lt_size (w2.g.f _ _ ho))
    refine wpAny_pyIter_tuple hl ?_
    exact post F2 ρ1 _ _ _ _ _ (l1.trans l2) p1 (w2.keep .push) (Iter.tuple (n := n) hh hne ho hs) ⟨⟨_, Heap.get?_push_size _ rfl, rfl, rfl⟩, hl.push _⟩ hgo
  · split at hi
    · rename_i a hasc
      cases hi
      cases r2 with
      | str _ t =>
      refine wpAny_pyIter_ascii (by simpa using hasc) ?_
      exact post F2 ρ1 _ _ _ _ _ (l1.trans l2) p1 (w2.keep .push) (Iter.str hh) ⟨_, Heap.get?_push_size _ rfl, rfl, rfl⟩ hgo
    · cases hi
  · cases hi

/-- the name of a built-in, then its call -/
theorem biCall {x : Str} {b : Bi} {T : String} {p pos : Pos} {args : List Expr} {ds : List D} {Q : Value → Shared → Prop} {Ex : Value → Shared → Prop} (Z : Bas c) (N : BiFree c) (hx : isGlob nm x = true) (hb : x = biName b) (hv : biVal b = .type T ∨ biVal b = .builtin T)
    (hns : (starEach args env).all (!·.1) = true) (ha : EvL c nm X env fa A (spliced (backTo pos (starEach args env))) vars σ ds σ1) (w : W c nm X env fa F ρ vars σ s)
    (h : ∀ F1 ρ1 vs s1, PLe F F1 → ρ <+: ρ1 → W c nm X env fa F1 ρ1 vars σ1 s1 → Rvs c.C F1 ρ1 vs ds → wpAny (model c.prog c.w) A (call (biVal b) vs) Q Ex s1) : wpAny (model c.prog c.w) A (eval (.Call (.Name x p) args [] pos) env) Q Ex s := by
  subst hb
  obtain ⟨hl, hdb⟩ := isGlob_lookup hx
  refine wpAny_bind (w.f.builtin Z w.g hl (N b) (boot_bi b).1 (boot_bi b).2 hdb ?_)
  rcases hv with hv | hv
  · rw [hv]
    refine CallT hns (ha F ρ s _ Ex w fun F1 ρ1 vs s1 l1 p1 w1 r1 => ?_)
    have := h F1 ρ1 vs s1 l1 p1 w1 r1
    rw [hv] at this; exact this
  · rw [hv]
    refine CallB hns (ha F ρ s _ Ex w fun F1 ρ1 vs s1 l1 p1 w1 r1 => ?_)
    have := h F1 ρ1 vs s1 l1 p1 w1 r1
    rw [hv] at this; exact this
end
end Ev
end
section
set_option maxRecDepth 100000
set_option autoImplicit false
set_option linter.all false
namespace Ev
open PySem PySem.W PySem.Calls PyProof.Rows PySem.SeqAt

theorem small_abs {i : Int} (h : small i = true) : i.natAbs < 2 ^ 62 := of_decide_eq_true h
theorem rangeSize_1 (a b : Int) : Builtin.Range.rangeSize a b 1 = ((b - a).toNat : Int) := by
  unfold Builtin.Range.rangeSize
  rw [if_pos (by decide)]
  split
  · rw [Int.ediv_one]; omega
  · omega
theorem range_small {a b : Int} (ha : small a = true) (hb : small b = true) : Builtin.Range.small a b 1 = true := by
  have h1 := small_abs ha
  have h2 := small_abs hb
  unfold Builtin.Range.small
  rw [rangeSize_1]
  have f : ∀ i : Int, i.natAbs < 2 ^ 63 → Builtin.Range.rangeFitsLong i = true := by
    intro i hi
    unfold Builtin.Range.rangeFitsLong
    simp only [Bool.and_eq_true, decide_eq_true_eq]
    omega
  rw [f a (by omega), f b (by omega), f 1 (by decide), f _ (by omega)]
  simp only [Bool.true_and, Bool.or_eq_true]
  right
  rw [if_pos (by decide)]
  exact f _ (by omega)

section
variable {c : Cx} {nm : Nm} {X : PMap} {fa : List (Option Addr)} {σ σ' σ1 σ2 σ3 : Sto} {env : Env} {vars vars' vars1 : Vars} {A : Around} {F F' F0 : FM} {ρ ρ' ρ0 : List (List Addr)} {s s' : Shared} {fl : Flw}

theorem Kp.mk2 {h' : Heap} {tk : Nat} (h : ∀ b o, s.heap.get? b = some o → h'.get? b = some o) (ht : s.toks ≤ tk) : Kp s { s with heap := h', toks := tk } := Kp.mk' h ht

def rangeOf : List D → Option (Int × Int)
  | [.int b] => if small b && decide (b.toNat ≤ maxLen) then some (0, b) else none
  | [.int a, .int b] => if small a && small b && decide ((b - a).toNat ≤ maxLen) then some (a, b) else none
  | _ => none

/-- the range itself -/
theorem callRange {ds : List D} {a b : Int} {vs : List Value} {Q : Value → Shared → Prop} {Ex : Value → Shared → Prop} (hr : Rvs c.C F ρ vs ds) (e : rangeOf ds = some (a, b)) (w : W c nm X env fa F ρ vars σ s)
    (h : ∀ r t u v s1, Kp s s1 → IsRange s1.heap r a b 1 t u v → Builtin.Range.small a b 1 = true → (b - a).toNat ≤ maxLen → Q (.ref r) s1) : wpAny (model c.prog c.w) A (call (.type "range") vs) Q Ex s := by
  unfold rangeOf at e
  split at e
  · split at e
    · rename_i b' hc
      cases e
      simp only [Bool.and_eq_true, decide_eq_true_eq] at hc
      cases hr with
      | cons h1 hs =>
      cases hs
      cases h1 with
      | int _ t =>
      refine call_range_1 (h _ _ _ _ _ (Kp.mk2 (fun b o e => Heap.get?_push_of_some _ e) (by omega)) (IsRange.new ..) (range_small (by decide) hc.1) (by rw [Int.sub_zero]; exact hc.2))
    · cases e
  · split at e
    · rename_i a' b' hc
      cases e
      simp only [Bool.and_eq_true, decide_eq_true_eq] at hc
      cases hr with
      | cons h1 hs =>
      cases hs with
      | cons h2 hs =>
      cases hs
      cases h1 with
      | int _ t =>
      cases h2 with
      | int _ u =>
      refine call_range_2 (h _ _ _ _ _ (Kp.mk2 (fun b o e => Heap.get?_push_of_some _ e) (by omega)) (IsRange.new ..) (range_small hc.1.1 hc.1.2) hc.2)
    · cases e
  · cases e

theorem EvI.range {tg : Expr} {x : Str} {p pos : Pos} {args : List Expr} {ds : List D} {a b : Int} (hh : A.handled = none) (Z : Bas c) (N : BiFree c) (hx : isGlob nm x = true) (hb : x = biName .range)
    (hns : (starEach args env).all (!·.1) = true) (ha : EvL c nm X env fa A (spliced (backTo pos (starEach args env))) vars σ ds σ1) (e : rangeOf ds = some (a, b)) :
    EvI c nm X env fa A tg (.Call (.Name x p) args [] pos) vars σ (rangeD a b) σ1 := by
  intro F ρ s Q Ex w post
  refine biCall (T := "range") Z N hx hb (.inl rfl) hns ha w fun F1 ρ1 vs s1 l1 p1 w1 r1 => ?_
  refine callRange r1 e w1 fun r t u v s2 k2 hr hsm hlen => ?_
  have w2 := w1.keep k2
  refine wpAny_pyIter_range hr hsm ?_
  have hgo : GuardOk F1 X fa ρ1 σ1 [s2.heap.objs.size] := fun b hb => by simp at hb; subst hb; exact guard1 w2 (none_at_size _)
  refine post F1 ρ1 _ _ _ _ _ l1 p1 (w2.keep .push) (Iter.range hh) ?_ hgo
  have := Heap.get?_push_size s2.heap (o := { cls := .type "range_iterator", data := .fields #[rawInt a, rawInt (Builtin.Range.rangeSize a b 1), rawInt 1] }) rfl
  rw [rangeSize_1] at this
  show IsRangeIter _ _ _ _ _
  simpa [rangeSize_1] using this

theorem EvV.listRange {x y : Str} {p pos p' pos' : Pos} {args : List Expr} {ds : List D} {a b : Int} (hh : A.handled = none) (Z : Bas c) (N : BiFree c) (hy : isGlob nm y = true) (hyb : y = biName .list) (hx : isGlob nm x = true) (hb : x = biName .range)
    (hs1 : starEach [Expr.Call (.Name x p) args [] pos] env = (false, eval (.Call (.Name x p) args [] pos) env) :: starEach [] env) (hns : (starEach args env).all (!·.1) = true) (ha : EvL c nm X env fa A (spliced (backTo pos (starEach args env))) vars σ ds σ1) (e : rangeOf ds = some (a, b)) :
    EvV c nm X env fa A (eval (.Call (.Name y p') [.Call (.Name x p) args [] pos] [] pos') env) vars σ (.lst (rangeD a b)) σ1 := by
  intro F ρ s Q Ex w post
  subst hyb
  obtain ⟨hl, hdb⟩ := isGlob_lookup hy
  refine wpAny_bind (w.f.builtin Z w.g hl (N .list) (boot_bi .list).1 (boot_bi .list).2 hdb ?_)
  refine CallT (T := "list") (by rw [hs1]; rfl) ?_
  rw [hs1]
  refine spliced_cons ?_
  refine biCall (T := "range") Z N hx hb (.inl rfl) hns ha w fun F1 ρ1 vs s1 l1 p1 w1 r1 => ?_
  refine callRange r1 e w1 fun r t u v s2 k2 hr hsm hlen => spliced_nil ?_
  have w2 := w1.keep k2
  show wpAny _ _ (call (.type "list") [.ref r]) _ _ _
  refine wpAny_with_toks (n := s2.toks) (Nat.le_refl _) (call_list_range hh hr hsm (rangeSize_1 a b) (by unfold maxLen at hlen; omega) fun h' tk acc c' hk hg hit ht => ?_)
  have ht' : s2.toks ≤ tk := ht
  have hall : Rvs c.C F1 ρ1 acc.toList (rangeD a b) := by
    have : ∀ (n : Nat) (f : Nat → Int) (l : List Value), l.length = n → (∀ (i : Nat) v, l[i]? = some v → ∃ t, v = .int (f i) t) → Rvs c.C F1 ρ1 l ((List.range n).map fun k => .int (f k)) := by
      intro n
      induction n with
      | zero => intro f l hl _; simp at hl; subst hl; exact .nil
      | succ n ih =>
        intro f l hl hv
        cases l with
        | nil => simp at hl
        | cons v l =>
          rw [List.range_succ_eq_map, List.map_cons, List.map_map]
          obtain ⟨t, rfl⟩ := hv 0 v rfl
          exact .cons (.int _ t) (ih (fun k => f (k + 1)) l (by simpa using hl) fun i v h => hv (i + 1) v (by simpa using h))
    refine this _ (fun k => a + (k : Int)) _ ?_ ?_
    · simpa using hit.1
    · intro i v hv
      obtain ⟨t, e⟩ := hit.2 i v (by simpa using hv)
      exact ⟨t, by rw [e, Int.mul_one]⟩
  obtain ⟨F2, l2, w3, r3⟩ := w2.res (Kp.mk2 hk ht') (.lst (vs := acc.toList) (n := c') (none_at_size s2.heap) hg rfl (by simp) hall)
  exact post F2 ρ1 _ _ (l1.trans l2) p1 w3 r3
end
end Ev
end
section
set_option maxRecDepth 100000
set_option autoImplicit false
set_option linter.all false
namespace Ev
open PySem PySem.W PySem.Calls PyProof.Rows PySem.SeqAt

theorem zipApart_of (k a b : Nat) (ha : a < k) (hb : b < k) : ZipApart (k + 4) (k + 2) (k + 3) k (k + 1) a b := by
  constructor <;> (show (_ : Nat) ≠ _; omega)

section
variable {c : Cx} {nm : Nm} {X : PMap} {fa : List (Option Addr)} {σ σ' σ1 σ2 σ3 σ4 : Sto} {env : Env} {vars vars' vars1 : Vars} {A : Around} {F F' F0 : FM} {ρ ρ' ρ0 : List (List Addr)} {s s' : Shared} {fl : Flw}

theorem EvI.enum {elts : List Expr} {kk : Nat} {tp : Pos} {x : Str} {p pos : Pos} {e : Expr} {d : D} {xs : List D} (hh : A.handled = none) (Z : Bas c) (N : BiFree c) (hx : isGlob nm x = true) (hb : x = biName .enumerate)
    (hs : starEach [e] env = (false, eval e env) :: starEach [] env) (he : EvV c nm X env fa A (eval e env) vars σ d σ1) (hf : Ev.frz σ1 d = some (.lst xs, σ2)) :
    EvI c nm X env fa A (.Tuple elts kk tp) (.Call (.Name x p) [e] [] pos) vars σ (enumD 0 xs) σ2 := by
  intro F ρ s Q Ex w post
  refine biCall (T := "enumerate") Z N hx hb (.inl rfl) (by rw [hs]; rfl) (EvL.cons (ds := []) hs he EvL.nil) w fun F1 ρ1 vs s1 l1 p1 w1 r1 => ?_
  cases r1 with
  | @cons v _ _ _ rv rn =>
  cases rn
  obtain ⟨F2, l2, w2, r2⟩ := w1.frz rv hf
  cases r2 with
  | @lst a o us n _ ho hc hd hs' =>
  have hl : s1.heap.IsList a us.toArray := ⟨_, w2.g.f _ _ ho, hc, _, hd⟩
  have halt : a < s1.heap.objs.size := Heap.lt_size (w2.g.f _ _ ho)
  show wpAny _ _ (call (.type "enumerate") [.ref a]) _ _ _
  refine call_enumerate_list hl fun h' q1 q2 q3 q4 => ?_
  have w3 : W c nm X env fa F2 ρ1 vars σ2 { s1 with heap := h' } := w2.keep (Kp.mk2 (tk := s1.toks) q4 (Nat.le_refl _))
  have hne1 : s1.heap.objs.size + 1 ≠ s1.heap.objs.size := Nat.succ_ne_self _
  refine wpAny_pyIter_enum (s := { s1 with heap := h' }) q1 ?_
  refine post F2 ρ1 _ _ [s1.heap.objs.size + 1, s1.heap.objs.size] _ _ (l1.trans l2) p1 w3
    (Iter.ofWalksT (WalksT.enumerate hh (s1.heap.objs.size + 1) s1.heap.objs.size a hne1 (Nat.ne_of_lt (Nat.lt_succ_of_lt halt)) (Nat.ne_of_lt halt) us.toArray) (by rw [enumD_len]; simp [hs'.length]) (fun b hb => hb) ?_ ?_ ?_)
    ⟨⟨_, q1⟩, q2, hl.at fun o e => q4 a o e⟩ ?_
  · intro i h st b hb
    obtain ⟨⟨old, e1⟩, ⟨o2, e2, _, e3⟩, _⟩ := st
    simp at hb
    rcases hb with rfl | rfl
    · exact ⟨_, e1, fun w q => by cases q⟩
    · exact ⟨_, e2, fun w q => by rw [e3] at q; cases q⟩
  · intro b hb
    simp at hb
    rcases hb with rfl | rfl | rfl
    · exact .inl (by simp)
    · exact .inl (by simp)
    · exact .inr ⟨_, ho⟩
  · intro i vals d hP hd
    obtain ⟨t, u, e1, rfl⟩ := hP
    obtain ⟨y, e2, rfl⟩ := enumD_get hd
    obtain ⟨u', e3, ru⟩ := hs'.get e2
    simp at e1
    rw [e3] at e1; cases e1
    refine ⟨_, rfl, .cons ?_ (.cons ru .nil)⟩
    rw [Nat.zero_add]; exact .int _ t
  · intro b hb
    simp at hb
    have : s1.heap.objs.size ≤ b := by rcases hb with rfl | rfl <;> omega
    exact guard1 w2 (none_of_ge this)

theorem EvI.zip {elts : List Expr} {kk : Nat} {tp : Pos} {x : Str} {p pos : Pos} {e1 e2 : Expr} {d1 d2 : D} {xs ys : List D} (hh : A.handled = none) (Z : Bas c) (N : BiFree c) (hx : isGlob nm x = true) (hb : x = biName .zip)
    (hs1 : starEach [e1, e2] env = (false, eval e1 env) :: starEach [e2] env) (hs2 : starEach [e2] env = (false, eval e2 env) :: starEach [] env)
    (h1 : EvV c nm X env fa A (eval e1 env) vars σ d1 σ1) (hf1 : Ev.frz σ1 d1 = some (.lst xs, σ2)) (h2 : EvV c nm X env fa A (eval e2 env) vars σ2 d2 σ3) (hf2 : Ev.frz σ3 d2 = some (.lst ys, σ4)) :
    EvI c nm X env fa A (.Tuple elts kk tp) (.Call (.Name x p) [e1, e2] [] pos) vars σ (zipD xs ys) σ4 := by
  intro F ρ s Q Ex w post
  subst hb
  obtain ⟨hgl, hdb⟩ := isGlob_lookup hx
  refine wpAny_bind (w.f.builtin Z w.g hgl (N .zip) (boot_bi .zip).1 (boot_bi .zip).2 hdb ?_)
  refine CallT (T := "zip") (by rw [hs1, hs2]; rfl) ?_
  rw [hs1]
  refine spliced_cons (h1 F ρ s _ Ex w fun F1 ρ1 v1 s1 l1 p1 w1 r1 => ?_)
  obtain ⟨F2, l2, w2, r2⟩ := w1.frz r1 hf1
  rw [hs2]
  refine spliced_cons (h2 F2 ρ1 s1 _ Ex w2 fun F3 ρ3 v3 s3 l3 p3 w3 r3 => spliced_nil ?_)
  obtain ⟨F4, l4, w4, r4⟩ := w3.frz r3 hf2
  have r2' := r2.mono (l3.trans l4) p3
  cases r2' with
  | @lst a o us n _ ho hc hd hr =>
  cases r4 with
  | @lst b o' us' n' _ ho' hc' hd' hr' =>
  have hl : s3.heap.IsList a us.toArray := ⟨_, w4.g.f _ _ ho, hc, _, hd⟩
  have hl' : s3.heap.IsList b us'.toArray := ⟨_, w4.g.f _ _ ho', hc', _, hd'⟩
  have halt : a < s3.heap.objs.size := Heap.lt_size (w4.g.f _ _ ho)
  have hblt : b < s3.heap.objs.size := Heap.lt_size (w4.g.f _ _ ho')
  show wpAny _ _ (call (.type "zip") [.ref a, .ref b]) _ _ _
  refine call_zip_2 hl hl' fun h' q1 q2 q3 q4 q5 q6 q7 => ?_
  have w5 : W c nm X env fa F4 ρ3 vars σ4 { s3 with heap := h' } := w4.keep (Kp.mk2 (tk := s3.toks) q7 (Nat.le_refl _))
  have ap : ZipApart (s3.heap.objs.size + 4) (s3.heap.objs.size + 2) (s3.heap.objs.size + 3) s3.heap.objs.size (s3.heap.objs.size + 1) a b := by
    exact zipApart_of _ _ _ halt hblt
  refine wpAny_pyIter_zip (s := { s3 with heap := h' }) q1 ?_
  refine post F4 ρ3 _ _ [s3.heap.objs.size + 4, s3.heap.objs.size + 2, s3.heap.objs.size + 3, s3.heap.objs.size, s3.heap.objs.size + 1] _ _ ((l1.trans l2).trans (l3.trans l4)) (p1.trans p3) w5
    (Iter.ofWalksT (WalksT.zip2 hh _ _ _ _ _ a b ap us.toArray us'.toArray) (by rw [zipD_len]; simp [hr.length, hr'.length]) ?_ ?_ ?_ ?_)
    ⟨q1, q2, ⟨_, _, q3⟩, q4, q5, hl.at fun o e => q7 a o e, hl'.at fun o e => q7 b o e⟩ ?_
  · intro b hb; simp at hb ⊢; rcases hb with rfl | rfl | rfl | rfl <;> simp
  · intro i h st b hb
    obtain ⟨e1, e2, ⟨_, _, e3⟩, ⟨_, e4, _, e5⟩, ⟨_, e6, _, e7⟩, _⟩ := st
    simp at hb
    rcases hb with rfl | rfl | rfl | rfl | rfl
    · exact ⟨_, e1, fun w q => by cases q⟩
    · exact ⟨_, e2, fun w q => by cases q⟩
    · exact ⟨_, e3, fun w q => by cases q⟩
    · exact ⟨_, e4, fun w q => by rw [e5] at q; cases q⟩
    · exact ⟨_, e6, fun w q => by rw [e7] at q; cases q⟩
  · intro b' hb
    simp at hb
    rcases hb with rfl | rfl | rfl | rfl | rfl | rfl | rfl
    · exact .inl (by simp)
    · exact .inl (by simp)
    · exact .inl (by simp)
    · exact .inl (by simp)
    · exact .inl (by simp)
    · exact .inr ⟨_, ho⟩
    · exact .inr ⟨_, ho'⟩
  · intro i vals d hP hd
    obtain ⟨u, u', e1, e2, rfl⟩ := hP
    obtain ⟨y, y', e3, e4, rfl⟩ := zipD_get hd
    obtain ⟨z, e5, rz⟩ := hr.get e3
    obtain ⟨z', e6, rz'⟩ := hr'.get e4
    simp at e1 e2
    rw [e5] at e1; cases e1
    rw [e6] at e2; cases e2
    exact ⟨_, rfl, .cons rz (.cons rz' .nil)⟩
  · intro b' hb
    simp at hb
    have : s3.heap.objs.size ≤ b' := by rcases hb with rfl | rfl | rfl | rfl | rfl <;> omega
    exact guard1 w4 (none_of_ge this)
end
end Ev
end
section
set_option maxRecDepth 100000
set_option autoImplicit false
set_option linter.all false
namespace Ev
open PySem PySem.W PySem.Calls PyProof.Rows PySem.SeqAt

/-! the cells of a comprehension -/
def closL (env : Env) : List (Str × NameKind) → List (Str × Addr) → List (Str × Addr)
  | [], acc => acc
  | (x, k) :: r, acc => if k == .free then closL env r ((x, (env.cells.lookup x).getD 0) :: acc) else closL env r acc
theorem closureFor_eq {scope : Scope} {env : Env} (h : ∀ x, (x, NameKind.free) ∈ scope.names → ∃ a, env.cells.lookup x = some a) : closureFor scope env = pure (closL env scope.names []) := by
  have main : ∀ (f : Str × NameKind → List (Str × Addr) → Sem (ForInStep (List (Str × Addr)))), (∀ x k cs, f (x, k) cs = if k == .free then (do let a ← cellOf env x; pure (ForInStep.yield ((x, a) :: cs))) else pure (ForInStep.yield cs)) →
      ∀ (l : List (Str × NameKind)) (acc : List (Str × Addr)), (∀ x, (x, NameKind.free) ∈ l → ∃ a, env.cells.lookup x = some a) → forIn l acc f = (pure (closL env l acc) : Sem _) := by
    intro f hf l
    induction l with
    | nil => intro acc _; rfl
    | cons p r ih =>
      obtain ⟨x, k⟩ := p
      intro acc hl
      rw [List.forIn_cons, hf]
      unfold closL
      by_cases hk : (k == NameKind.free) = true
      · rw [if_pos hk, if_pos hk]
        have hk' : k = .free := by simpa using hk
        subst hk'
        obtain ⟨a, ha⟩ := hl x (by simp)
        have hc : cellOf env x = pure a := by unfold cellOf; rw [ha]
        rw [hc, ha]
        exact ih _ fun y hy => hl y (by simp [hy])
      · rw [if_neg hk, if_neg hk]
        exact ih _ fun y hy => hl y (by simp [hy])
  unfold closureFor
  dsimp only
  rw [main _ (fun x k cs => rfl) scope.names [] h]
  rfl
theorem closL_miss {env : Env} {x : Str} : ∀ {l : List (Str × NameKind)} {acc : List (Str × Addr)}, (∀ k, (x, k) ∉ l) → (closL env l acc).lookup x = acc.lookup x
  | [], acc, _ => rfl
  | (y, k) :: r, acc, h => by
    have hr : ∀ k, (x, k) ∉ r := fun k' hm => h k' (by simp [hm])
    have hne : (x == y) = false := by rw [beq_eq_false_iff_ne]; intro q; subst q; exact h k (by simp)
    unfold closL
    split
    · rw [closL_miss hr, List.lookup_cons, hne]
    · exact closL_miss hr
theorem closL_hit {env : Env} {x : Str} {a : Addr} (ha : env.cells.lookup x = some a) : ∀ {l : List (Str × NameKind)} {acc : List (Str × Addr)}, (l.map (·.1)).Nodup → (x, NameKind.free) ∈ l → (closL env l acc).lookup x = some a
  | [], acc, _, h => by simp at h
  | (y, k) :: r, acc, nd, h => by
    simp only [List.map_cons, List.nodup_cons] at nd
    unfold closL
    rcases List.mem_cons.mp h with e | hm
    · cases e
      rw [if_pos (by decide), closL_miss fun k hm => nd.1 (List.mem_map.mpr ⟨_, hm, rfl⟩), List.lookup_cons, beq_self_eq_true, ha]; rfl
    · split
      · exact closL_hit ha nd.2 hm
      · exact closL_hit ha nd.2 hm
theorem cellsFrom_app : ∀ (names : List (Str × NameKind)) (n : Nat) (acc : List (Str × Addr)), cellsFrom n names acc = cellsFrom n names [] ++ acc
  | [], n, acc => rfl
  | (x, k) :: r, n, acc => by
    unfold cellsFrom
    split
    · rw [cellsFrom_app r (n + 1) ((x, n) :: acc), cellsFrom_app r (n + 1) [(x, n)]]; simp
    · exact cellsFrom_app r n acc
theorem cellsFrom_mem : ∀ {names : List (Str × NameKind)} {n : Nat} {acc : List (Str × Addr)} {x : Str} {a : Addr}, (x, a) ∈ cellsFrom n names acc → (x, NameKind.cell) ∈ names ∨ (x, a) ∈ acc
  | [], n, acc, x, a, h => .inr h
  | (y, k) :: r, n, acc, x, a, h => by
    unfold cellsFrom at h
    split at h
    · rename_i hk
      rcases cellsFrom_mem h with h1 | h1
      · exact .inl (by simp [h1])
      · rcases List.mem_cons.mp h1 with e | e
        · have hk' : k = .cell := by simpa using hk
          cases e; subst hk'; exact .inl (by simp)
        · exact .inr e
    · rcases cellsFrom_mem h with h1 | h1
      · exact .inl (by simp [h1])
      · exact .inr h1
theorem lookup_app {α : Type} {x : Str} : ∀ {l r : List (Str × α)}, (l ++ r).lookup x = (l.lookup x).or (r.lookup x)
  | [], r => by simp
  | (y, a) :: l, r => by
    rw [List.cons_append, List.lookup_cons, List.lookup_cons]
    split
    · rfl
    · exact lookup_app
theorem lookup_none_of {α : Type} {x : Str} : ∀ {l : List (Str × α)}, (∀ a, (x, a) ∉ l) → l.lookup x = none
  | [], _ => rfl
  | (y, a) :: l, h => by
    have hne : (x == y) = false := by rw [beq_eq_false_iff_ne]; intro q; subst q; exact h a (by simp)
    rw [List.lookup_cons, hne]
    exact lookup_none_of fun b hb => h b (by simp [hb])

section
variable {prog : Program} {w : World} {A : Around} {E : Value → Shared → Prop} {R : Result → Shared → Prop} {s : Shared}
theorem compLoop_any {elt target iter : Expr} {ifs : List Expr} {scope : Scope} {pos : Pos} {it acc : Value} {env : Env} (I : Nat → Shared → Prop)
    (turn : ∀ n s, I n s → wpAny (model prog w) A (pyNext it) (fun r s₁ => match r with
      | none => R (.ok .next) s₁
      | some v => wpAny (model prog w) A (letOwnedTupleGo target it v) (fun _ s₁' => wpAny (model prog w) A (assign target env v) (fun _ s₂ =>
          wpAny (model prog w) A (forIn ifs true fun c r => if r = true then do let ok ← isTrue c env (eval c env); pure (ForInStep.yield ok) else pure (ForInStep.yield r)) (fun ok s₃ =>
            if ok = true then wpAny (model prog w) A (eval elt env) (fun x s₄ =>
              wpAny (model prog w) A (call (.builtin "list.append") [acc, x]) (fun _ s₅ => ∃ m, m < n ∧ I m s₅) (notedBy (model prog w) A env fun e s' => R (.error e) s') s₄) (notedBy (model prog w) A env fun e s' => R (.error e) s') s₃
            else ∃ m, m < n ∧ I m s₃) (notedBy (model prog w) A env fun e s' => R (.error e) s') s₂) (notedBy (model prog w) A env fun e s' => R (.error e) s') s₁') (notedBy (model prog w) A env fun e s' => R (.error e) s') s₁) (notedBy (model prog w) A env fun e s' => R (.error e) s') s)
    (n : Nat) (h : I n s) :
    codeAny (model prog w) A (.compLoop (.ListComp elt [⟨target, iter, ifs, 0⟩] scope pos) 0 it acc env) R s := by
  refine codeAny_loop rfl I (fun n s hI => ?_) n h
  show wpAny _ A ((compTurn (.ListComp elt [⟨target, iter, ifs, 0⟩] scope pos) 0 it acc env).onRaise (fun x => do noteFrame x env; theTreesLotGoes x)) _ _ s
  refine wpAny_noted ?_
  rw [compTurn_list]
  refine wpAny_bind (wpAny_standAt (wpAny_bind (wpAny_mono (turn n s hI) (fun r s₁ h₁ => ?_) fun _ _ h' => h')))
  cases r with
  | none => exact wpAny_pure h₁
  | some v =>
    refine wpAny_bind (wpAny_mono h₁ (fun _ s₁' h₁' => ?_) fun _ _ h' => h')
    refine wpAny_bind (wpAny_mono h₁' (fun _ s₂ h₂ => wpAny_bind (wpAny_mono h₂ (fun ok s₃ h₃ => ?_) fun _ _ h' => h')) fun _ _ h' => h')
    cases ok with
    | false => exact wpAny_pure ⟨rfl, h₃⟩
    | true =>
      exact wpAny_bind (wpAny_bind (wpAny_mono h₃ (fun x s₄ h₄ => wpAny_bind (wpAny_mono h₄ (fun _ s₅ h₅ => wpAny_pure (wpAny_pure ⟨rfl, h₅⟩)) fun _ _ h' => h')) fun _ _ h' => h'))
end

section
variable {c : Cx} {nm : Nm} {X : PMap} {fa : List (Option Addr)} {σ σ' σ1 σ2 σ3 σ4 : Sto} {env : Env} {vars vars' vars1 : Vars} {A : Around} {F F' F0 : FM} {ρ ρ' ρ0 : List (List Addr)} {s s' : Shared} {fl : Flw}

theorem Iter.step2 {tg : Expr} {I : Addr} {fp own own' : List Addr} {ds : List D} {St : Nat → Heap → Prop} (it : Iter c A tg I fp own F0 ρ0 ds St) (hsub : ∀ b ∈ own, b ∈ own') (w : W c nm X env fa F ρ vars σ s) (hg : GuardOk F X fa ρ σ own') (hlv : ∀ b ∈ own', ∃ o, s.heap.get? b = some o) (le : PLe F0 F) (hp : ρ0 <+: ρ)
    {i : Nat} {d : D} (hd : ds[i]? = some d) (st : St i s.heap) {Q : Value → Shared → Prop} {E : Value → Shared → Prop}
    (post : ∀ v s' F', PLe F F' → W c nm X env fa F' ρ vars σ s' → GuardOk F' X fa ρ σ own' → St (i + 1) s'.heap → Rv c.C F' ρ v d → (∀ b o, b ∉ own → s.heap.get? b = some o → s'.heap.get? b = some o) → Q v s') :
    wpAny (model c.prog c.w) A (pyNext (.ref I)) (fun r s1 => ∃ v, r = some v ∧ wpAny (model c.prog c.w) A (letOwnedTupleGo tg (.ref I) v) (fun _ s2 => Q v s2) E s1) E s := by
  refine it.turn i d s Q E hd st fun v s' hk h1 h2 h3 st' r => ?_
  have w' := w.keepBut (own := own') hg (fun b o hb e => hk b o (fun q => hb (hsub b q)) e) h1 h2 h3
  obtain ⟨F', l, w2, g2, r2⟩ := w.res2 w' hg hlv (r.mono le hp)
  exact post v s' F' l w2 g2 st' r2 hk

/-- what the loop of a comprehension does, in its own frame -/
theorem compLoop_ok {elt t iter : Expr} {ifs : List Expr} {scope : Scope} {pos : Pos} {T : Ev.T} {I Da : Addr} {fp own : List Addr} {ds rs : List D} {St : Nat → Heap → Prop} {R : Result → Shared → Prop}
    {tst : Vars → Sto → Option (Bool × Sto)} {el : Vars → Sto → Option (D × Sto)} (hh : A.handled = none) (ht : compT nm t = some T) (it : Iter c A t I fp own F0 ρ0 ds St) (hDo : Da ∉ own) (hlen : ds.length ≤ maxLen)
    (hts : ∀ X' vars σ b σ', tst vars σ = some (b, σ') → EvB c nm X' env fa A (forIn ifs true fun c r => if r = true then do let ok ← isTrue c env (eval c env); pure (ForInStep.yield ok) else pure (ForInStep.yield r)) vars σ b σ')
    (hel : ∀ X' vars σ d σ', el vars σ = some (d, σ') → EvV c nm X' env fa A (eval elt env) vars σ d σ')
    (w : W c nm X env fa F0 ρ0 vars σ s) (hg : GuardOk F0 X fa ρ0 σ (Da :: own)) (st : St 0 s.heap) (hD : s.heap.get? Da = some { cls := .type "list", data := .seq ([] : List Value).toArray 0 })
    (e : compD (fun d vs σ => (asgT T d vs).bind fun vs => (tst vs σ).bind fun (ok, σ) => if ok then (el vs σ).map fun (r, σ) => (some r, vs, σ) else some (none, vs, σ)) ds vars σ = some (rs, σ'))
    (post : ∀ F' ρ' vars' s' ws n, PLe F0 F' → ρ0 <+: ρ' → W c nm X env fa F' ρ' vars' σ' s' → GuardOk F' X fa ρ' σ' (Da :: own) → s'.heap.get? Da = some { cls := .type "list", data := .seq ws.toArray n } → Rvs c.C F' ρ' ws rs → R (.ok .next) s') :
    codeAny (model c.prog c.w) A (.compLoop (.ListComp elt [⟨t, iter, ifs, 0⟩] scope pos) 0 (.ref I) (.ref Da) env) R s := by
  refine compLoop_any (fun n s' => ∃ i F2 ρ2 vars2 σ2 ws m done rest, n = ds.length + 1 - i ∧ i ≤ ds.length ∧ PLe F0 F2 ∧ ρ0 <+: ρ2 ∧ W c nm X env fa F2 ρ2 vars2 σ2 s' ∧ GuardOk F2 X fa ρ2 σ2 (Da :: own) ∧ St i s'.heap ∧
    s'.heap.get? Da = some { cls := .type "list", data := .seq (ws : List Value).toArray m } ∧ Rvs c.C F2 ρ2 ws done ∧ done.length ≤ i ∧ rs = done ++ rest ∧
    compD (fun d vs σ => (asgT T d vs).bind fun vs => (tst vs σ).bind fun (ok, σ) => if ok then (el vs σ).map fun (r, σ) => (some r, vs, σ) else some (none, vs, σ)) (ds.drop i) vars2 σ2 = some (rest, σ')) ?_ (ds.length + 1)
    ⟨0, F0, ρ0, vars, σ, [], 0, [], rs, by omega, Nat.zero_le _, PLe.rfl, List.prefix_refl _, w, hg, st, hD, .nil, Nat.le_refl _, rfl, by simpa using e⟩
  rintro n s2 ⟨i, F2, ρ2, vars2, σ2, ws, m, done, rest, rfl, hile, l2, p2, w2, hg2, st2, hD2, hws, hdl, hrs, e2⟩
  have live : ∀ {h : Heap} {j : Nat} {o : Obj}, St j h → h.get? Da = some o → ∀ b ∈ Da :: own, ∃ o, h.get? b = some o := fun st hd b hb => by
    rcases List.mem_cons.mp hb with rfl | hb
    · exact ⟨_, hd⟩
    · obtain ⟨o, e, _⟩ := it.live _ _ st b hb; exact ⟨o, e⟩
  by_cases hlt : i < ds.length
  · have hd : ds[i]? = some ds[i] := List.getElem?_eq_getElem hlt
    rw [List.drop_eq_getElem_cons hlt] at e2
    unfold compD at e2
    cases ha : asgT T ds[i] vars2 with
    | none => rw [ha] at e2; simp at e2
    | some vars3 =>
      rw [ha] at e2
      simp only [Option.bind_some] at e2
      cases htv : tst vars3 σ2 with
      | none => rw [htv] at e2; simp at e2
      | some q =>
        obtain ⟨ok, σ3⟩ := q
        rw [htv] at e2
        simp only [Option.bind_some] at e2
        have step := it.step2 (own' := Da :: own) (E := notedBy (model c.prog c.w) A env fun e s' => R (.error e) s') (fun b hb => by simp [hb]) w2 hg2 (live st2 hD2) l2 p2 hd st2
          (Q := fun v s3 => wpAny (model c.prog c.w) A (assign t env v) (fun _ s₂ =>
            wpAny (model c.prog c.w) A (forIn ifs true fun c r => if r = true then do let ok ← isTrue c env (eval c env); pure (ForInStep.yield ok) else pure (ForInStep.yield r)) (fun ok s₃ =>
            if ok = true then wpAny (model c.prog c.w) A (eval elt env) (fun x s₄ =>
              wpAny (model c.prog c.w) A (call (.builtin "list.append") [.ref Da, x]) (fun _ s₅ => ∃ mm, mm < ds.length + 1 - i ∧ ∃ i F2 ρ2 vars2 σ2 ws m done rest, mm = ds.length + 1 - i ∧ i ≤ ds.length ∧ PLe F0 F2 ∧ ρ0 <+: ρ2 ∧ W c nm X env fa F2 ρ2 vars2 σ2 s₅ ∧ GuardOk F2 X fa ρ2 σ2 (Da :: own) ∧ St i s₅.heap ∧
    s₅.heap.get? Da = some { cls := .type "list", data := .seq (ws : List Value).toArray m } ∧ Rvs c.C F2 ρ2 ws done ∧ done.length ≤ i ∧ rs = done ++ rest ∧
    compD (fun d vs σ => (asgT T d vs).bind fun vs => (tst vs σ).bind fun (ok, σ) => if ok then (el vs σ).map fun (r, σ) => (some r, vs, σ) else some (none, vs, σ)) (ds.drop i) vars2 σ2 = some (rest, σ')) (notedBy (model c.prog c.w) A env fun e s' => R (.error e) s') s₄) (notedBy (model c.prog c.w) A env fun e s' => R (.error e) s') s₃
            else ∃ mm, mm < ds.length + 1 - i ∧ ∃ i F2 ρ2 vars2 σ2 ws m done rest, mm = ds.length + 1 - i ∧ i ≤ ds.length ∧ PLe F0 F2 ∧ ρ0 <+: ρ2 ∧ W c nm X env fa F2 ρ2 vars2 σ2 s₃ ∧ GuardOk F2 X fa ρ2 σ2 (Da :: own) ∧ St i s₃.heap ∧
    s₃.heap.get? Da = some { cls := .type "list", data := .seq (ws : List Value).toArray m } ∧ Rvs c.C F2 ρ2 ws done ∧ done.length ≤ i ∧ rs = done ++ rest ∧
    compD (fun d vs σ => (asgT T d vs).bind fun vs => (tst vs σ).bind fun (ok, σ) => if ok then (el vs σ).map fun (r, σ) => (some r, vs, σ) else some (none, vs, σ)) (ds.drop i) vars2 σ2 = some (rest, σ')) (notedBy (model c.prog c.w) A env fun e s' => R (.error e) s') s₂) (notedBy (model c.prog c.w) A env fun e s' => R (.error e) s') s3) ?_
        · refine wpAny_mono step (fun r s3 h3 => ?_) fun _ _ h => h
          obtain ⟨v, rfl, h3⟩ := h3
          exact h3
        · intro v s3 F3 l3 w3 hg3 st3 r3 hk3
          have hD3 := hk3 Da _ hDo hD2
          have hXn : ∀ b ∈ Da :: own, X b = none := fun b hb => (hg3 b hb).2.1
          have hlv : ∀ b ∈ Da :: own, ∃ o, s3.heap.get? b = some o ∧ ∀ w, o.data ≠ .cell w := fun b hb => by
            rcases List.mem_cons.mp hb with rfl | hb
            · exact ⟨_, hD3, fun w q => by cases q⟩
            · exact it.live _ _ st3 b hb
          refine EvA.target (X := hid (· ∈ Da :: own) X s3.heap) hh ht ha F3 ρ2 σ2 s3 v _ _ (w3.guardL hg3) r3 fun s4 w4 => ?_
          refine hts _ _ _ _ _ htv F3 ρ2 s4 _ _ w4 fun F5 ρ5 s5 l5 p5 w5 => ?_
          have LL := l2.trans (l3.trans l5)
          have PP := p2.trans p5
          have stay : ∀ {F6 : FM} {s6 : Shared}, PLe F3 F6 → (∀ a o, F6.o a = some o → s6.heap.get? a = some o) → (∀ b ∈ Da :: own, ∀ o, s3.heap.get? b = some o → s6.heap.get? b = some o) → St (i + 1) s6.heap := fun l f k =>
            it.stay st3 (fun a o h => w3.g.f a o ((l2.trans l3).o a o h)) (fun a o h => f a o ((l2.trans (l3.trans l)).o a o h)) fun b hb o e => k b (by simp [hb]) o e
          cases ok with
          | false =>
            simp only [Bool.false_eq_true, if_false] at e2 ⊢
            obtain ⟨w6, k6, hg6⟩ := w5.unguardL hXn hlv
            exact ⟨ds.length + 1 - (i + 1), by omega, i + 1, F5, ρ5, vars3, σ3, ws, m, done, rest, rfl, by omega, LL, PP, w6, hg6, stay l5 w6.g.f k6, k6 Da (by simp) _ hD3, hws.mono (l3.trans l5) p5, by omega, hrs, e2⟩
          | true =>
            simp only [if_true] at e2 ⊢
            cases hev : el vars3 σ3 with
            | none => rw [hev] at e2; simp at e2
            | some q =>
              obtain ⟨d, σ4⟩ := q
              rw [hev] at e2
              simp only [Option.map_some] at e2
              cases hcd : compD (fun d vs σ => (asgT T d vs).bind fun vs => (tst vs σ).bind fun (ok, σ) => if ok then (el vs σ).map fun (r, σ) => (some r, vs, σ) else some (none, vs, σ)) (ds.drop (i + 1)) vars3 σ4 with
              | none => rw [hcd] at e2; cases e2
              | some q =>
                obtain ⟨rest', σ''⟩ := q
                rw [hcd] at e2
                simp only [Option.some.injEq, Prod.mk.injEq] at e2
                obtain ⟨rfl, rfl⟩ := e2
                refine hel _ _ _ _ _ hev F5 ρ5 s5 _ _ w5 fun F7 ρ7 u s7 l7 p7 w7 r7 => ?_
                obtain ⟨w8, k8, hg8⟩ := w7.unguardL hXn hlv
                have hws8 : Rvs c.C F7 ρ7 ws done := hws.mono (l3.trans (l5.trans l7)) (p5.trans p7)
                refine wpAny_list_append_plain ⟨m, k8 Da (by simp) _ hD3⟩ (fun h' hpl hs' => ?_) (by rw [List.size_toArray, hws.length]; exact size_of_maxLen (by omega))
                obtain ⟨m', hpl⟩ := hpl
                have hpl' : h'.get? Da = some { cls := .type "list", data := .seq (ws ++ [u]).toArray m' } := by rw [hpl]; simp
                have w9 : W c nm X env fa F7 ρ7 vars3 σ4 { s7 with heap := h' } := w8.keepBut (own := Da :: own) hg8 (fun b o hb e => (hs'.2 b (fun q => hb (by simp [q]))).trans e) rfl rfl (Nat.le_refl _)
                refine ⟨ds.length + 1 - (i + 1), by omega, i + 1, F7, ρ7, vars3, σ4, ws ++ [u], m', done ++ [d], rest', rfl, by omega, LL.trans l7, PP.trans p7, w9, hg8, ?_, hpl', hws8.append (.cons r7 .nil), by simp; omega, by simp [hrs], hcd⟩
                refine it.frame _ _ _ (stay (l5.trans l7) w8.g.f k8) fun b hb o e => ?_
                refine (hs'.2 b (fun q => ?_)).trans e
                subst q
                rcases it.frozen b hb with ho | ⟨o', ho⟩
                · exact hDo ho
                · have := (hg8 b (by simp)).1
                  rw [(LL.trans l7).o b o' ho] at this; cases this
  · have hi : i = ds.length := by omega
    subst hi
    rw [List.drop_length] at e2
    simp only [compD, Option.some.injEq, Prod.mk.injEq] at e2
    obtain ⟨rfl, rfl⟩ := e2
    rw [List.append_nil] at hrs
    subst hrs
    refine it.done s2 _ _ st2 fun s3 hk h1 h2 h3 => ?_
    exact post F2 ρ2 vars2 s3 ws m l2 p2 (w2.keepBut (own := Da :: own) hg2 (fun b o hb e => hk b o (fun q => hb (by simp [q])) e) h1 h2 h3) hg2 (hk Da _ hDo hD2) hws
end
end Ev
end
section
set_option maxRecDepth 100000
set_option autoImplicit false
set_option linter.all false
namespace Ev
open PySem PySem.W PySem.Calls PyProof.Rows PySem.SeqAt

theorem newCompEnv {M : Model} {A : Around} {E : Value → Shared → Prop} {s : Shared} {scope : Scope} {env : Env} {cl : List (Str × Addr)} {Q : Env → Shared → Prop}
    (h : Q (newEnv scope s.heap.objs.size env.globals (cellsFrom (s.heap.objs.size + 1) scope.names cl) env.qual none .none (some env) builtinsNs) { s with heap := pushCells (s.heap.push { cls := .type "dict", data := .dict #[] }) scope.names }) :
    wpAny M A (newFunctionEnv scope env.globals cl [] env.qual none .none (some env)) Q E s := by
  unfold newFunctionEnv
  refine wpAny_bind (wpAny_alloc ?_)
  refine wpAny_bind (wpAny_layCells _ (fun name kind cells => by cases hkc : kind == NameKind.cell <;> simp [hkc]) _ _ _ _ ?_)
  dsimp only
  rw [List.forIn_nil]
  refine wpAny_bind (wpAny_pure (wpAny_pure ?_))
  have hz : ({ s with heap := s.heap.push { cls := .type (if (some env).isSome = true then "dict" else "frame"), data := .dict #[] } } : Shared).heap.objs.size = s.heap.objs.size + 1 := Heap.size_push ..
  rw [hz]
  exact h

theorem iniOf_get {nm : Nm} : ∀ {inner : Nm} {ini : List (Option Nat)}, iniOf nm inner = some ini → ini.length = inner.length ∧
    ∀ (i : Nat) x k, inner[i]? = some (x, k) → ∃ o, ini[i]? = some o ∧ (k = .free → ∃ j k', o = some j ∧ nm[j]? = some (x, k') ∧ (k' = .cell ∨ k' = .free)) ∧ (k ≠ .free → o = none)
  | [], ini, h => by
    simp [iniOf] at h; subst h
    exact ⟨rfl, fun i x k e => by simp at e⟩
  | (y, q) :: r, ini, h => by
    unfold iniOf at h
    rw [List.mapM_cons] at h
    obtain ⟨o, h1, h2⟩ := Option.bind_eq_some_iff.mp h
    obtain ⟨ini', h3, h4⟩ := Option.bind_eq_some_iff.mp h2
    cases h4
    obtain ⟨q1, q2⟩ := iniOf_get (nm := nm) (inner := r) (ini := ini') h3
    refine ⟨by simp [q1], fun i x k e => ?_⟩
    cases i with
    | succ i => exact q2 i x k (by simpa using e)
    | zero =>
      simp at e
      obtain ⟨rfl, rfl⟩ := e
      refine ⟨o, rfl, fun hk => ?_, fun hk => ?_⟩
      · subst hk
        dsimp only at h1
        split at h1
        · rename_i j hj; cases h1; exact ⟨_, _, rfl, nmIdx_get hj, .inl rfl⟩
        · rename_i j hj; cases h1; exact ⟨_, _, rfl, nmIdx_get hj, .inr rfl⟩
        · cases h1
      · cases q <;> first | exact absurd rfl hk | (dsimp only at h1; cases h1; rfl)

theorem lookup_relabel {env : Env} : ∀ {names : List (Str × NameKind)} {x : Str} {k : NameKind}, names.lookup x = some k →
    (names.map fun (n, k) => if (k == NameKind.free && env.scope.kind == .function && env.kindOf n == some .cell) then (n, NameKind.cell) else (n, k)).lookup x = some (if (k == NameKind.free && env.scope.kind == .function && env.kindOf x == some .cell) then .cell else k)
  | [], _, _, h => by simp at h
  | (n, j) :: r, x, k, h => by
    rw [List.lookup_cons] at h
    show List.lookup x ((if (j == NameKind.free && env.scope.kind == .function && env.kindOf n == some .cell) = true then (n, NameKind.cell) else (n, j)) :: _) = _
    cases hx : x == n with
    | true =>
      rw [hx] at h
      cases h
      have : x = n := by simpa using hx
      subst this
      split <;> rw [List.lookup_cons, beq_self_eq_true]
    | false =>
      rw [hx] at h
      have ih := lookup_relabel (env := env) h
      split <;> rw [List.lookup_cons, hx] <;> exact ih

section
variable {c : Cx} {nm : Nm} {X : PMap} {fa : List (Option Addr)} {σ σ' σ1 σ2 σ3 σ4 : Sto} {env : Env} {vars vars' vars1 : Vars} {A : Around} {F F' F0 : FM} {ρ ρ' ρ0 : List (List Addr)} {s s' : Shared} {fl : Flw}

/-- the frame of a comprehension, new -/
theorem compFrame {inner : Scope} {ini : List (Option Nat)} (hsc : scopeOk inner = true) (hini : iniOf nm inner.names = some ini) (hcap : capOk vars ini = true) (w : W c nm X env fa F ρ vars σ s) :
    closureFor inner env = pure (closL env inner.names []) ∧
    (let C := s.heap.objs.size
     let cells := cellsFrom (s.heap.objs.size + 1) inner.names (closL env inner.names [])
     let s4 : Shared := { s with heap := pushCells (s.heap.push { cls := .type "dict", data := .dict #[] }) inner.names }
     let env' : Env := { newEnv inner C env.globals cells env.qual none .none (some env) builtinsNs with scope := relabel inner env }
     Kp s s4 ∧ W c inner.names (hid (ownedFr fa) X s4.heap) env' (frAdrs inner.names C cells) F ρ (capture vars ini) σ s4 ∧ ∀ (i : Nat) a, (frAdrs inner.names C cells)[i]? = some (some a) → s.heap.objs.size ≤ a) := by
  obtain ⟨q1, q2⟩ := iniOf_get hini
  simp only [scopeOk, Bool.and_eq_true, beq_iff_eq, decide_eq_true_eq] at hsc
  obtain ⟨⟨hkind, hnd⟩, hglob⟩ := hsc
  -- a captured name is defined outside
  have capt : ∀ (i : Nat) x, inner.names[i]? = some (x, .free) → ∃ j k' d, ini[i]? = some (some j) ∧ nm[j]? = some (x, k') ∧ (k' = .cell ∨ k' = .free) ∧ vars[j]? = some (some d) := by
    intro i x e
    obtain ⟨o, h1, h2, _⟩ := q2 i x _ e
    obtain ⟨j, k', rfl, h3, h4⟩ := h2 rfl
    have := List.all_eq_true.mp hcap (some j) (List.mem_of_getElem? h1)
    dsimp only at this
    obtain ⟨d, hd⟩ := Option.isSome_iff_exists.mp this
    refine ⟨j, k', d, h1, h3, h4, ?_⟩
    cases q : vars[j]? with
    | none => rw [q] at hd; cases hd
    | some o => rw [q] at hd; simp at hd; rw [hd]
  have clo : ∀ (i : Nat) x, inner.names[i]? = some (x, .free) → ∃ a, env.cells.lookup x = some a := by
    intro i x e
    obtain ⟨j, k', d, h1, h2, h3, h4⟩ := capt i x e
    rcases h3 with rfl | rfl
    · obtain ⟨a, _, e, _⟩ := w.f.cell j x h2; exact ⟨a, e⟩
    · obtain ⟨a, _, _, e, _⟩ := w.f.free j x d h2 h4; exact ⟨a, e⟩
  refine ⟨closureFor_eq fun x hx => ?_, ?_⟩
  · obtain ⟨i, hi, e⟩ := List.mem_iff_getElem.mp hx
    exact clo i x (List.getElem?_eq_some_iff.mpr ⟨hi, e⟩)
  intro C cells s4 env'
  have ok := cellsFrom_ok inner.names (s.heap.push { cls := .type "dict", data := .dict #[] }) (s.heap.objs.size + 1) [] ⟨fun _ _ hm => (nomatch hm), List.Pairwise.nil⟩ (by rw [Heap.size_push]; exact Nat.le_refl _)
  rw [Heap.size_push] at ok
  have hk : ∀ b o, s.heap.get? b = some o → s4.heap.get? b = some o := fun b o e => pushCells_keeps _ _ b o (Heap.get?_push_of_some _ e)
  have kp : Kp s s4 := Kp.mk' (tk := s.toks) hk (Nat.le_refl _)
  have w4 := w.keep kp
  -- own cells of the comprehension
  have own : ∀ {x a}, (∃ i : Nat, inner.names[i]? = some (x, .cell)) → cells.lookup x = some a → (x, a) ∈ cellsFrom (s.heap.objs.size + 1) inner.names [] := by
    intro x a ⟨i, hi⟩ e
    have e' : (cellsFrom (s.heap.objs.size + 1) inner.names [] ++ closL env inner.names []).lookup x = some a := by rw [← cellsFrom_app]; exact e
    rw [lookup_app] at e'
    cases q : (cellsFrom (s.heap.objs.size + 1) inner.names []).lookup x with
    | some b => rw [q] at e'; simp at e'; subst e'; exact mem_of_lookup q
    | none =>
      have := cellsFrom_some inner.names (s.heap.objs.size + 1) [] (x := x) (.inl (lookup_idx hnd hi))
      rw [q] at this; cases this
  have ownL : ∀ {x} {i : Nat}, inner.names[i]? = some (x, .cell) → ∃ a, cells.lookup x = some a := by
    intro x i hi
    have := cellsFrom_some inner.names (s.heap.objs.size + 1) [] (x := x) (.inl (lookup_idx hnd hi))
    obtain ⟨a, ha⟩ := Option.isSome_iff_exists.mp this
    refine ⟨a, ?_⟩
    show (cellsFrom (s.heap.objs.size + 1) inner.names (closL env inner.names [])).lookup x = some a
    rw [cellsFrom_app, lookup_app, ha]; rfl
  have hC : s4.heap.Ns C (fun _ => none) := (Heap.Ns.new s.heap (.type "dict")).keeps (pushCells_keeps _ _)
  have above : ∀ (i : Nat) a, (frAdrs inner.names C cells)[i]? = some (some a) → s.heap.objs.size ≤ a := by
    intro i a e
    cases i with
    | zero => rw [frAdrs_0] at e; cases e; exact Nat.le_refl _
    | succ i =>
      obtain ⟨x, e1, e2⟩ := frAdrs_s e
      exact Nat.le_of_succ_le (ok.empty x a (own ⟨i, e1⟩ e2)).2
  refine ⟨kp, ⟨?_, ?_⟩, above⟩
  · refine G.newFr w4.g.hideFr ?_ ?_
    · intro i a e
      obtain ⟨f1, f2, f3⟩ := w.g.fresh (none_of_ge (above i a e))
      have nfr : ¬ ownedFr fa a := fun ⟨j, hj⟩ => f3 (.fr j) trivial (adrs_fr.mpr hj)
      refine ⟨f1, by rw [hid_neg nfr]; exact f2, fun t ht hm => ?_, ?_⟩
      · cases t with
        | fr j => simp [adrs] at hm
        | loc l => exact f3 (.loc l) ht hm
      · cases i with
        | zero => rw [frAdrs_0] at e; cases e; obtain ⟨o, _, _, e, _⟩ := hC; exact ⟨o, e⟩
        | succ i =>
          obtain ⟨x, e1, e2⟩ := frAdrs_s e
          obtain ⟨o, e, _⟩ := (ok.empty x a (own ⟨i, e1⟩ e2)).1
          exact ⟨o, e⟩
    · intro i j a e e'
      cases i with
      | zero => cases j with
        | zero => rfl
        | succ j =>
          rw [frAdrs_0] at e; cases e
          obtain ⟨x, e1, e2⟩ := frAdrs_s e'
          have := (ok.empty x _ (own ⟨j, e1⟩ e2)).2
          exact absurd this (Nat.not_succ_le_self _)
      | succ i => cases j with
        | zero =>
          rw [frAdrs_0] at e'; cases e'
          obtain ⟨x, e1, e2⟩ := frAdrs_s e
          have := (ok.empty x _ (own ⟨i, e1⟩ e2)).2
          exact absurd this (Nat.not_succ_le_self _)
        | succ j =>
          obtain ⟨x, e1, e2⟩ := frAdrs_s e
          obtain ⟨z, e3, e4⟩ := frAdrs_s e'
          have := name_of_addr ok.apart (own ⟨i, e1⟩ e2) (own ⟨j, e3⟩ e4)
          subst this
          rw [name_idx hnd e1 e3]
  · have capNone : ∀ (i : Nat) x k d, inner.names[i]? = some (x, k) → k ≠ .free → (capture vars ini)[i]? = some (some d) → False := by
      intro i x k d e hne hc
      obtain ⟨o, h1, _, h3⟩ := q2 i x k e
      unfold capture at hc
      rw [List.getElem?_map, h1, h3 hne] at hc
      simp at hc
    refine { kindF := hkind, glob := w.f.glob, bi := w.f.bi, nd := hnd, len := by simp [capture, q1], l0 := frAdrs_0, kinds := fun x k hx => ?_, ns := ⟨_, hC, fun i x d e hc => (capNone i x _ d e (by decide) hc).elim⟩, cell := fun i x e => ?_, free := fun i x d e hc => ?_ }
    · have := lookup_relabel (env := env) hx
      have hko : env'.kindOf x = _ := this
      refine ⟨fun hf => ?_, fun hne => ?_⟩
      · rw [hko]; subst hf
        split
        · exact .inl rfl
        · exact .inr rfl
      · rw [hko]
        have : (k == NameKind.free) = false := by cases k <;> first | rfl | exact absurd rfl hne
        rw [this]; rfl
    · obtain ⟨a, ha⟩ := ownL e
      exact ⟨a, none, ha, frAdrs_at e ha, (ok.empty x a (own ⟨i, e⟩ ha)).1, fun d hd => (capNone i x _ d e (by decide) hd).elim⟩
    · obtain ⟨j, k', d', h1, h2, h3, h4⟩ := capt i x e
      have hd : d' = d := by
        unfold capture at hc
        rw [List.getElem?_map, h1] at hc
        simp [h4] at hc
        exact hc
      subst hd
      obtain ⟨a, ha⟩ := clo i x e
      have hcl : cells.lookup x = some a := by
        show (cellsFrom (s.heap.objs.size + 1) inner.names (closL env inner.names [])).lookup x = some a
        have hno : (cellsFrom (s.heap.objs.size + 1) inner.names []).lookup x = none := by
          refine lookup_none_of fun b hb => ?_
          rcases cellsFrom_mem hb with hm | hm
          · obtain ⟨i', hi', e'⟩ := List.mem_iff_getElem.mp hm
            have e'' : inner.names[i']? = some (x, .cell) := List.getElem?_eq_some_iff.mpr ⟨hi', e'⟩
            have := name_idx hnd e e''
            subst this
            rw [e] at e''; cases e''
          · cases hm
        rw [cellsFrom_app, lookup_app, hno]
        exact closL_hit ha hnd (List.mem_of_getElem? e)
      rcases h3 with rfl | rfl
      · obtain ⟨b, v?, e1, e2, ⟨o, e3, e4⟩, e5⟩ := w4.f.cell j x h2
        rw [ha] at e1; cases e1
        obtain ⟨v, rfl, rv⟩ := e5 d' h4
        exact ⟨a, o, v, hcl, by rw [hid_pos ⟨j + 1, e2⟩]; exact e3, e4, rv⟩
      · obtain ⟨b, o, v, e1, e2, e3, rv⟩ := w4.f.free j x d' h2 h4
        rw [ha] at e1; cases e1
        have nfr : ¬ ownedFr fa a := fun ⟨j', hj⟩ => by
          have := (w4.g.own (.fr j') a trivial (adrs_fr.mpr hj)).2.1
          rw [e2] at this; cases this
        exact ⟨a, o, v, hcl, by rw [hid_neg nfr]; exact e2, e3, rv⟩
end
end Ev
end
section
set_option maxRecDepth 100000
set_option autoImplicit false
set_option linter.all false
namespace Ev
open PySem PySem.W PySem.Calls PyProof.Rows PySem.SeqAt

section
variable {c : Cx} {nm : Nm} {X : PMap} {fa : List (Option Addr)} {σ σ' σ1 σ2 σ3 σ4 : Sto} {env : Env} {vars vars' vars1 : Vars} {A : Around} {F F' F0 : FM} {ρ ρ' ρ0 : List (List Addr)} {s s' : Shared} {fl : Flw}

theorem compCore {use : Option (Value → Sem Unit)} {elt t iter : Expr} {ifs : List Expr} {scope : Scope} {pos pos' : Pos} {T : Ev.T} {ini : List (Option Nat)} {ds rs : List D} {tst : Vars → Sto → Option (Bool × Sto)} {el : Vars → Sto → Option (D × Sto)}
    {Q : Value → Shared → Prop} {Ex : Value → Shared → Prop} (hh : A.handled = none)
    (hsc : scopeOk scope = true) (hini : iniOf nm scope.names = some ini) (ht : compT scope.names t = some T) (hfs : ∀ x, foldedSetIterable iter env x = pure x)
    (hi : EvI c nm X env fa A t iter vars σ ds σ1) (hcap : capOk vars ini = true) (hlen : ds.length ≤ maxLen)
    (hts : ∀ env' fa' X' vars σ b σ', tst vars σ = some (b, σ') → EvB c scope.names X' env' fa' A (forIn ifs true fun c r => if r = true then do let ok ← isTrue c env' (eval c env'); pure (ForInStep.yield ok) else pure (ForInStep.yield r)) vars σ b σ')
    (hel : ∀ env' fa' X' vars σ d σ', el vars σ = some (d, σ') → EvV c scope.names X' env' fa' A (eval elt env') vars σ d σ')
    (e : compD (fun d vs σ => (asgT T d vs).bind fun vs => (tst vs σ).bind fun (ok, σ) => if ok then (el vs σ).map fun (r, σ) => (some r, vs, σ) else some (none, vs, σ)) ds (capture vars ini) σ1 = some (rs, σ'))
    (w : W c nm X env fa F ρ vars σ s)
    (fin : ∀ F' ρ' Da C m s', PLe F F' → ρ <+: ρ' → W c nm X env fa F' ρ' vars σ' s' → Rv c.C F' ρ' (.ref Da) (.lst rs) → GuardOk F' X fa ρ' σ' [C] → s'.heap.Ns C m → compPost (model c.prog c.w) A Ex use Q (.ref Da) C (.ok .next) s') :
    wpAny (model c.prog c.w) A (comprehension (.ListComp elt [⟨t, iter, ifs, 0⟩] scope pos) scope env pos' (newList []) false (eval iter env) use) Q Ex s := by
  have hkind : scope.kind = .function := by simp only [scopeOk, Bool.and_eq_true, beq_iff_eq] at hsc; exact hsc.1.1
  have hnd : (scope.names.map (·.1)).Nodup := by simp only [scopeOk, Bool.and_eq_true, decide_eq_true_eq] at hsc; exact hsc.1.2
  have hclos := (compFrame hsc hini hcap w).1
  refine wpAny_comprehension_free (g := ⟨t, iter, ifs, 0⟩) (gs := []) rfl hfs hclos hkind (fun x hx hl => ?_) ?_
  · obtain ⟨i, hi', e'⟩ := List.mem_iff_getElem.mp hx
    have : scope.names[i]? = some (x.1, .local) := by rw [List.getElem?_eq_getElem hi', e', ← hl]
    exact lookup_idx hnd this
  refine hi F ρ s _ Ex w fun F1 ρ1 I fp own St s2 l1 p1 w2 it st hg => ?_
  refine wpAny_newObj_type ?_ (by show ([] : List Value).length ≤ _; exact Nat.zero_le _)
  -- the list that grows
  have hDn := none_at_size s2.heap
  have hDf := w2.g.fresh hDn
  have w3 := w2.keep (.push (o := { cls := .type "list", data := .seq ([] : List Value).toArray }))
  have hDg : ({ s2 with heap := s2.heap.push { cls := .type "list", data := .seq ([] : List Value).toArray } } : Shared).heap.get? s2.heap.objs.size = some { cls := .type "list", data := .seq ([] : List Value).toArray 0 } := Heap.get?_push_size _ rfl
  have hsz3 : ({ s2 with heap := s2.heap.push { cls := .type "list", data := .seq ([] : List Value).toArray } } : Shared).heap.objs.size = s2.heap.objs.size + 1 := Heap.size_push ..
  have st3 : St 0 ({ s2 with heap := s2.heap.push { cls := .type "list", data := .seq ([] : List Value).toArray } } : Shared).heap := it.frame _ _ _ st fun b _ o e => Heap.get?_push_of_some _ e
  have liveLt : ∀ b ∈ own, b < s2.heap.objs.size := fun b hb => by obtain ⟨o, e, _⟩ := it.live _ _ st b hb; exact Heap.lt_size e
  have hDo : s2.heap.objs.size ∉ own := fun h => absurd (liveLt _ h) (Nat.lt_irrefl _)
  generalize hs3 : ({ s2 with heap := s2.heap.push { cls := .type "list", data := .seq ([] : List Value).toArray } } : Shared) = s3 at *
  have hs3' : ({ s2 with heap := s2.heap.push { cls := .type "list", dict := none, data := .seq ([] : List Value).toArray, slots := #[] } } : Shared) = s3 := hs3
  show wpAny _ _ _ _ _ _
  refine newCompEnv ?_
  obtain ⟨kp, wi, above⟩ := (compFrame hsc hini hcap w3).2
  have w4 := w3.keep kp
  generalize hCc : s3.heap.objs.size = C at *
  generalize hcells : cellsFrom (C + 1) scope.names (closL env scope.names []) = cells at *
  generalize hs4 : ({ s3 with heap := pushCells (s3.heap.push { cls := .type "dict", data := .dict #[] }) scope.names } : Shared) = s4 at *
  have hDlt : s2.heap.objs.size < C := by rw [hsz3]; exact Nat.lt_succ_self _
  have hCfr := w3.g.fresh (none_of_ge (h := s3.heap) (a := C) (by rw [hCc]; exact Nat.le_refl _))
  have guard : GuardOk F1 (hid (ownedFr fa) X s4.heap) (frAdrs scope.names C cells) ρ1 σ1 (s2.heap.objs.size :: own) := by
    intro b hb
    have hlt : b < C := by
      rcases List.mem_cons.mp hb with rfl | hb
      · exact hDlt
      · exact Nat.lt_trans (liveLt b hb) hDlt
    obtain ⟨f1, f2, f3⟩ : F1.o b = none ∧ X b = none ∧ ∀ t, liveT σ1 t → b ∉ adrs fa ρ1 t := by
      rcases List.mem_cons.mp hb with rfl | hb
      · exact hDf
      · exact hg b hb
    have nfr : ¬ ownedFr fa b := fun ⟨j, hj⟩ => f3 (.fr j) trivial (adrs_fr.mpr hj)
    refine ⟨f1, by rw [hid_neg nfr]; exact f2, fun t ht hm => ?_⟩
    cases t with
    | loc l => exact f3 (.loc l) ht hm
    | fr i => exact absurd (above i b (adrs_fr.mp hm)) (Nat.not_le.mpr hlt)
  have st4 : St 0 s4.heap := it.frame _ _ _ st3 fun b _ o e => kp.heap b o e
  have loop : codeAny (model c.prog c.w) A (.compLoop (.ListComp elt [⟨t, iter, ifs, 0⟩] scope pos) 0 (.ref I) (.ref s2.heap.objs.size) { newEnv scope C env.globals cells env.qual none .none (some env) builtinsNs with scope := relabel scope env })
      (compPost (model c.prog c.w) A Ex use Q (.ref s2.heap.objs.size) C) s4 := by
    refine compLoop_ok hh ht it hDo hlen (fun X' vars σ b σ' h => hts _ _ X' vars σ b σ' h) (fun X' vars σ d σ' h => hel _ _ X' vars σ d σ' h) wi guard st4 (kp.heap _ _ hDg) e fun F5 ρ5 vars5 s5 ws n l5 p5 w5 hg5 hD5 hws => ?_
    obtain ⟨g6, k6⟩ := w4.g.unhideFr w5.g
    have f6 : FrR c nm F5 X ρ5 env fa vars s5.heap := w4.f.to l5 p5 fun i a o hi' e' => k6 a o ⟨i, hi'⟩ e'
    have w6 : W c nm X env fa F5 ρ5 vars σ' s5 := ⟨g6, f6⟩
    -- freeze the list
    have hD1 := (hg5 s2.heap.objs.size (by simp)).1
    have hD2 := (hg5 s2.heap.objs.size (by simp)).2.2
    have hDno : ∀ t, liveT σ' t → s2.heap.objs.size ∉ adrs fa ρ5 t := fun t ht hm => by
      cases t with
      | loc l => exact hD2 (.loc l) ht hm
      | fr i => exact hDf.2.2 (.fr i) trivial (adrs_fr.mpr (adrs_fr.mp hm))
    have le6 := upd_le (o := { cls := .type "list", data := .seq ws.toArray n }) hD1
    have w7 := w6.intoG (g6.freezeAt hD5 hD1 hDf.2.1 hDno) le6 (List.prefix_refl _)
    obtain ⟨m, hns, _⟩ := w5.f.ns
    have hCown := w5.g.own (.fr 0) C trivial (adrs_fr.mpr frAdrs_0)
    have hgC : GuardOk (updF F5 s2.heap.objs.size { cls := .type "list", data := .seq ws.toArray n }) X fa ρ5 σ' [C] := fun b hb => by
      have hb' : b = C := by simpa using hb
      rw [hb']
      refine ⟨?_, hCfr.2.1, fun t ht hm => ?_⟩
      · show upd F5.o _ _ C = none
        rw [upd_ne (Nat.ne_of_gt hDlt)]; exact hCown.1
      · cases t with
        | fr i => exact hCfr.2.2 (.fr i) trivial (adrs_fr.mpr (adrs_fr.mp hm))
        | loc l =>
          have := w5.g.apart (.loc l) (.fr 0) C ht trivial hm (adrs_fr.mpr frAdrs_0)
          cases this
    exact fin _ ρ5 _ C m s5 ((l1.trans l5).trans le6) (p1.trans p5) w7 (.lst upd_self rfl rfl (hws.mono le6 (List.prefix_refl _))) hgC hns
  exact codeAny_compStart_list loop (it.self 0 s4 _ _ st4 loop)

theorem EvV.comp {elt t iter : Expr} {ifs : List Expr} {scope : Scope} {pos : Pos} {T : Ev.T} {ini : List (Option Nat)} {ds rs : List D} {tst : Vars → Sto → Option (Bool × Sto)} {el : Vars → Sto → Option (D × Sto)} (hh : A.handled = none)
    (hsc : scopeOk scope = true) (hini : iniOf nm scope.names = some ini) (ht : compT scope.names t = some T) (hfs : ∀ x, foldedSetIterable iter env x = pure x)
    (hi : EvI c nm X env fa A t iter vars σ ds σ1) (hcap : capOk vars ini = true) (hlen : ds.length ≤ maxLen)
    (hts : ∀ env' fa' X' vars σ b σ', tst vars σ = some (b, σ') → EvB c scope.names X' env' fa' A (forIn ifs true fun c r => if r = true then do let ok ← isTrue c env' (eval c env'); pure (ForInStep.yield ok) else pure (ForInStep.yield r)) vars σ b σ')
    (hel : ∀ env' fa' X' vars σ d σ', el vars σ = some (d, σ') → EvV c scope.names X' env' fa' A (eval elt env') vars σ d σ')
    (e : compD (fun d vs σ => (asgT T d vs).bind fun vs => (tst vs σ).bind fun (ok, σ) => if ok then (el vs σ).map fun (r, σ) => (some r, vs, σ) else some (none, vs, σ)) ds (capture vars ini) σ1 = some (rs, σ')) :
    EvV c nm X env fa A (eval (.ListComp elt [⟨t, iter, ifs, 0⟩] scope pos) env) vars σ (.lst rs) σ' := by
  intro F ρ s Q Ex w post
  rw [eval_ListComp]
  refine compCore hh hsc hini ht hfs hi hcap hlen hts hel e w fun F' ρ' Da C m s' le hp w' r hg hn => ?_
  exact ⟨m, hn, fun h' hs => post F' ρ' _ _ le hp (w'.keepBut (own := [C]) hg (fun b o hb e => (hs.2 b (by simpa using hb)).trans e) rfl rfl (Nat.le_refl _)) r⟩

theorem EvU.comp {elt t iter : Expr} {ifs : List Expr} {scope : Scope} {pos : Pos} {T : Ev.T} {ini : List (Option Nat)} {ds rs : List D} {tst : Vars → Sto → Option (Bool × Sto)} {el : Vars → Sto → Option (D × Sto)} (hh : A.handled = none)
    (hsc : scopeOk scope = true) (hini : iniOf nm scope.names = some ini) (ht : compT scope.names t = some T) (hfs : ∀ x, foldedSetIterable iter env x = pure x)
    (hi : EvI c nm X env fa A t iter vars σ ds σ1) (hcap : capOk vars ini = true) (hlen : ds.length ≤ maxLen)
    (hts : ∀ env' fa' X' vars σ b σ', tst vars σ = some (b, σ') → EvB c scope.names X' env' fa' A (forIn ifs true fun c r => if r = true then do let ok ← isTrue c env' (eval c env'); pure (ForInStep.yield ok) else pure (ForInStep.yield r)) vars σ b σ')
    (hel : ∀ env' fa' X' vars σ d σ', el vars σ = some (d, σ') → EvV c scope.names X' env' fa' A (eval elt env') vars σ d σ')
    (e : compD (fun d vs σ => (asgT T d vs).bind fun vs => (tst vs σ).bind fun (ok, σ) => if ok then (el vs σ).map fun (r, σ) => (some r, vs, σ) else some (none, vs, σ)) ds (capture vars ini) σ1 = some (rs, σ')) :
    EvU c nm X env fa A (.ListComp elt [⟨t, iter, ifs, 0⟩] scope pos) vars σ (.lst rs) σ' := by
  intro F ρ s u vars' Q Ex w hu post
  show wpAny _ _ (comprehension (.ListComp elt [⟨t, iter, ifs, 0⟩] scope pos) scope env (firstIterPos [⟨t, iter, ifs, 0⟩] pos) (newList []) false (eval iter env) (some u) >>= fun _ => pure ()) _ _ _
  refine wpAny_bind (compCore (Q := fun _ s' => wpAny (model c.prog c.w) A (pure ()) Q Ex s') hh hsc hini ht hfs hi hcap hlen hts hel e w fun F' ρ' Da C m s' le hp w' r hg hn => ?_)
  have hX : ∀ b ∈ [C], X b = none := fun b hb => (hg b hb).2.1
  obtain ⟨oC, es, ep, e1, e2, e3⟩ := hn
  have hl : ∀ b ∈ [C], ∃ o, s'.heap.get? b = some o ∧ ∀ w, o.data ≠ .cell w := fun b hb => by
    have hb' : b = C := by simpa using hb
    rw [hb']
    exact ⟨oC, e1, fun w q => by rw [e2] at q; cases q⟩
  refine hu (hid (· ∈ [C]) X s'.heap) F' ρ' σ' s' (.ref Da) _ _ (w'.guardL hg) r fun s2 w2 => ?_
  obtain ⟨w3, k3, hg3⟩ := w2.unguardL hX hl
  exact ⟨m, ⟨oC, es, ep, k3 C (by simp) _ e1, e2, e3⟩, fun h' hs => wpAny_pure (post F' ρ' _ le hp (w3.keepBut (own := [C]) hg3 (fun b o hb e => (hs.2 b (by simpa using hb)).trans e) rfl rfl (Nat.le_refl _)))⟩
end
end Ev
end
section
set_option maxRecDepth 100000
set_option autoImplicit false
set_option linter.all false
namespace Ev
open PySem PySem.W PySem.Calls PyProof.Rows PySem.SeqAt

/-! the greatest, the least -/
def numCmp (op : CmpOp) : D → D → Bool
  | .int a, .int b => match op with | .Gt => decide (a > b) | _ => decide (a < b)
  | .flt a, .flt b => match op with | .Gt => Float64.cmp a b == some Ordering.gt | _ => Float64.cmp a b == some Ordering.lt
  | _, _ => false
def IsGL (op : CmpOp) : Prop := op = .Gt ∨ op = .Lt
theorem cmpD_num {op : CmpOp} {x y : D} {b : Bool} (ho : IsGL op) (hx : num x = true) (hy : num y = true) (e : cmpD op x y = some b) : numCmp op x y = b ∧ ((∃ i j, x = .int i ∧ y = .int j) ∨ (∃ a d, x = .flt a ∧ y = .flt d)) := by
  rcases ho with rfl | rfl <;> cases x <;> cases y <;> simp [num] at hx hy <;> simp [cmpD, ltD] at e
  · exact ⟨by simp [numCmp, e], .inl ⟨_, _, rfl, rfl⟩⟩
  · exact ⟨by simp [numCmp, e], .inr ⟨_, _, rfl, rfl⟩⟩
  · exact ⟨by simp [numCmp, e], .inl ⟨_, _, rfl, rfl⟩⟩
  · exact ⟨by simp [numCmp, e.2], .inr ⟨_, _, rfl, rfl⟩⟩

def allKind (xs : List D) : Prop := (∀ x ∈ xs, ∃ i, x = D.int i) ∨ (∀ x ∈ xs, ∃ a, x = D.flt a)
theorem pick_kind {op : CmpOp} (ho : IsGL op) : ∀ {xs : List D} {b d : D}, num b = true → xs.all num = true → pickBest (cmpD op) b xs = some d → allKind (b :: xs)
  | [], b, d, hb, _, _ => by
    cases b <;> simp [num] at hb
    · exact .inl fun x hx => by simp at hx; exact ⟨_, hx⟩
    · exact .inr fun x hx => by simp at hx; exact ⟨_, hx⟩
  | x :: xs, b, d, hb, ha, e => by
    simp only [List.all_cons, Bool.and_eq_true] at ha
    unfold pickBest at e
    cases hc : cmpD op x b with
    | none => rw [hc] at e; cases e
    | some r =>
      rw [hc] at e
      obtain ⟨_, hk⟩ := cmpD_num ho ha.1 hb hc
      cases r with
      | true =>
        have := pick_kind ho ha.1 ha.2 e
        rcases hk with ⟨i, j, rfl, rfl⟩ | ⟨a, d', rfl, rfl⟩
        · rcases this with h | h
          · exact .inl fun y hy => by
              rcases List.mem_cons.mp hy with rfl | hy
              · exact ⟨_, rfl⟩
              · exact h y hy
          · obtain ⟨_, q⟩ := h (.int i) (by simp); cases q
        · rcases this with h | h
          · obtain ⟨_, q⟩ := h (.flt a) (by simp); cases q
          · exact .inr fun y hy => by
              rcases List.mem_cons.mp hy with rfl | hy
              · exact ⟨_, rfl⟩
              · exact h y hy
      | false =>
        have := pick_kind ho hb ha.2 e
        rcases hk with ⟨i, j, rfl, rfl⟩ | ⟨a, d', rfl, rfl⟩
        · rcases this with h | h
          · exact .inl fun y hy => by
              rcases List.mem_cons.mp hy with rfl | hy
              · exact ⟨_, rfl⟩
              · rcases List.mem_cons.mp hy with rfl | hy
                · exact ⟨_, rfl⟩
                · exact h y (by simp [hy])
          · obtain ⟨_, q⟩ := h (.int j) (by simp); cases q
        · rcases this with h | h
          · obtain ⟨_, q⟩ := h (.flt d') (by simp); cases q
          · exact .inr fun y hy => by
              rcases List.mem_cons.mp hy with rfl | hy
              · exact ⟨_, rfl⟩
              · rcases List.mem_cons.mp hy with rfl | hy
                · exact ⟨_, rfl⟩
                · exact h y (by simp [hy])

def btOf (op : CmpOp) (l : List D) (i j : Nat) : Bool := match l[i]?, l[j]? with
  | some x, some y => numCmp op x y
  | _, _ => false
theorem btOf_eq {op : CmpOp} {l : List D} {i j : Nat} {x y : D} (h1 : l[i]? = some x) (h2 : l[j]? = some y) : btOf op l i j = numCmp op x y := by unfold btOf; rw [h1, h2]
theorem pick_arg {op : CmpOp} (ho : IsGL op) {l : List D} (hn : l.all num = true) : ∀ (suf : List D) (k : Nat) (b d : D), l.drop (k + 1) = suf → l[argBest (btOf op l) k]? = some b → pickBest (cmpD op) b suf = some d → l[argBest (btOf op l) (k + suf.length)]? = some d
  | [], k, b, d, _, hb, e => by simp [pickBest] at e; subst e; simpa using hb
  | x :: xs, k, b, d, hs, hb, e => by
    have hx : l[k + 1]? = some x := by
      have := congrArg (·[0]?) hs
      simpa using this
    have hxs : l.drop (k + 1 + 1) = xs := by
      rw [← List.drop_drop, hs]; rfl
    have nx : num x = true := List.all_eq_true.mp hn x (List.mem_of_getElem? hx)
    have nb : num b = true := List.all_eq_true.mp hn b (List.mem_of_getElem? hb)
    unfold pickBest at e
    cases hc : cmpD op x b with
    | none => rw [hc] at e; cases e
    | some r =>
      rw [hc] at e
      obtain ⟨q, _⟩ := cmpD_num ho nx nb hc
      have hbt : btOf op l (k + 1) (argBest (btOf op l) k) = r := (btOf_eq hx hb).trans q
      have hlen : k + (x :: xs).length = k + 1 + xs.length := by simp; omega
      rw [hlen]
      cases r with
      | true =>
        refine pick_arg ho hn xs (k + 1) x d hxs ?_ e
        simp only [argBest, hbt, if_true]; exact hx
      | false =>
        refine pick_arg ho hn xs (k + 1) b d hxs ?_ e
        simp only [argBest, hbt]; exact hb

section
variable {c : Cx} {nm : Nm} {X : PMap} {fa : List (Option Addr)} {σ σ' σ1 σ2 σ3 σ4 : Sto} {env : Env} {vars vars' vars1 : Vars} {A : Around} {F F' F0 : FM} {ρ ρ' ρ0 : List (List Addr)} {s s' : Shared} {fl : Flw}

theorem cmpOf_num {op : CmpOp} (ho : IsGL op) {vs : List Value} {l : List D} (hr : Rvs c.C F ρ vs l) (hk : allKind l) : CmpOf c.prog c.w A op (fun i v => vs.toArray[i]? = some v) (btOf op l) := by
  intro i j vi vj s Q E hi hj hQ
  have get : ∀ {i : Nat} {v : Value}, vs.toArray[i]? = some v → ∃ x, l[i]? = some x ∧ Rv c.C F ρ v x := by
    intro i v h
    have h' : vs[i]? = some v := by simpa using h
    have hlt : i < l.length := by rw [← hr.length]; exact (List.getElem?_eq_some_iff.mp h').1
    obtain ⟨u, q1, q2⟩ := hr.get (List.getElem?_eq_getElem hlt)
    rw [h'] at q1; cases q1
    exact ⟨_, List.getElem?_eq_getElem hlt, q2⟩
  obtain ⟨x, e1, r1⟩ := get hi
  obtain ⟨y, e2, r2⟩ := get hj
  have hb : btOf op l i j = numCmp op x y := btOf_eq e1 e2
  rw [hb] at hQ
  rcases hk with hk | hk
  · obtain ⟨a, rfl⟩ := hk x (List.mem_of_getElem? e1)
    obtain ⟨b, rfl⟩ := hk y (List.mem_of_getElem? e2)
    cases r1; cases r2
    rcases ho with rfl | rfl
    · exact gt_int hQ
    · exact lt_int hQ
  · obtain ⟨a, rfl⟩ := hk x (List.mem_of_getElem? e1)
    obtain ⟨b, rfl⟩ := hk y (List.mem_of_getElem? e2)
    cases r1; cases r2
    rcases ho with rfl | rfl
    · exact AutoFloatOps.gt_0 hQ
    · exact AutoFloatOps.lt_0 hQ

theorem bestOf_inv {op : CmpOp} {l : List D} {d : D} (ho : IsGL op) (e : bestOf op l = some d) : 0 < l.length ∧ allKind l ∧ l[argBest (btOf op l) (l.length - 1)]? = some d := by
  unfold bestOf at e
  cases l with
  | nil => cases e
  | cons x r =>
    dsimp only at e
    split at e
    · rename_i ha
      have ha' : num x = true ∧ r.all num = true := by simpa using ha
      refine ⟨by simp, pick_kind ho ha'.1 ha'.2 e, ?_⟩
      have := pick_arg ho ha r 0 x d (by simp) (by simp [argBest]) e
      simpa using this
    · cases e

/-- the walk over a list for max and min -/
theorem bestWalk {op : CmpOp} {l : List D} {d : D} {vs : List Value} {I a : Addr} {s2 : Shared} {Q : Value → Shared → Prop} (hh : A.handled = none) (ho : IsGL op) (hr : Rvs c.C F ρ vs l) (e : bestOf op l = some d) (hne : a ≠ I)
    (h : ∀ v h' tk, Rv c.C F ρ v d → (∀ b o, b ∉ [I] → s2.heap.get? b = some o → h'.get? b = some o) → Q v { s2 with heap := h', toks := tk }) :
    0 < vs.toArray.size ∧ CmpOf c.prog c.w A op (fun i v => vs.toArray[i]? = some v) (btOf op l) ∧
      ∀ v h' tk, vs.toArray[argBest (btOf op l) (vs.toArray.size - 1)]? = some v → (∀ b o, b ∉ [I] → s2.heap.get? b = some o → h'.get? b = some o) → Q v { s2 with heap := h', toks := tk } := by
  obtain ⟨h1, h2, h3⟩ := bestOf_inv ho e
  have hsz : vs.toArray.size = l.length := by simp [hr.length]
  refine ⟨by omega, cmpOf_num ho hr h2, fun v h' tk hv hk => h v h' tk ?_ hk⟩
  rw [hsz] at hv
  obtain ⟨u, q1, q2⟩ := hr.get h3
  simp at hv
  rw [q1] at hv; cases hv
  exact q2
end
end Ev
end
section
set_option maxRecDepth 100000
set_option autoImplicit false
set_option linter.all false
namespace Ev
open PySem PySem.W PySem.Calls PyProof.Rows PySem.SeqAt

inductive Rds (c : Cx) (F : FM) (ρ : List (List Addr)) (h : Heap) : List Value → List D → Prop
  | nil : Rds c F ρ h [] []
  | cons {v : Value} {x : D} {vs : List Value} {xs : List D} (r : Rd c F ρ h v x) (rs : Rds c F ρ h vs xs) : Rds c F ρ h (v :: vs) (x :: xs)

section
variable {c : Cx} {nm : Nm} {X : PMap} {fa : List (Option Addr)} {σ σ' σ1 σ2 σ3 σ4 : Sto} {env : Env} {vars vars' vars1 : Vars} {A : Around} {F F' F0 : FM} {ρ ρ' ρ0 : List (List Addr)} {s s' : Shared} {fl : Flw}

theorem G.rds (g : G c F X fa ρ σ s) : ∀ {vs : List Value} {ds xs : List D}, Rvs c.C F ρ vs ds → ress σ ds = some xs → Rds c F ρ s.heap vs xs
  | _, _, xs, .nil, e => by simp [ress] at e; subst e; exact .nil
  | _, _, xs, .cons r rs, e => by
    unfold ress at e
    obtain ⟨x, e1, e2⟩ := Option.bind_eq_some_iff.mp e
    obtain ⟨ys, e3, rfl⟩ := Option.map_eq_some_iff.mp e2
    exact .cons (g.rd r e1) (g.rds rs e3)
theorem Rd.num {h : Heap} {v : Value} {x : D} (r : Rd c F ρ h v x) (hn : num x = true) : Rv c.C F ρ v x := by
  cases r with
  | old r => exact r
  | live _ _ => simp [Ev.num] at hn
theorem Rds.nums {h : Heap} {vs : List Value} {xs : List D} (r : Rds c F ρ h vs xs) (hn : xs.all num = true) : Rvs c.C F ρ vs xs := by
  induction r with
  | nil => exact .nil
  | cons r rs ih =>
    simp only [List.all_cons, Bool.and_eq_true] at hn
    exact .cons (r.num hn.1) (ih hn.2)
theorem bestOf_all {op : CmpOp} {l : List D} {d : D} (e : bestOf op l = some d) : l.all num = true := by
  unfold bestOf at e
  split at e
  · split at e
    · assumption
    · cases e
  · cases e

theorem bestList {op : CmpOp} {l : List D} {d : D} {v : Value} {Q : Value → Shared → Prop} {Ex : Value → Shared → Prop} (hh : A.handled = none) (ho : IsGL op) (w : W c nm X env fa F ρ vars σ s) (r : Rd c F ρ s.heap v (.lst l)) (e : bestOf op l = some d)
    (h : ∀ v s', Kp s s' → Res c F ρ s s' v d → Q v s') :
    wpAny (model c.prog c.w) A.in1 (pyIter v) (fun it s₂ => ∃ I fp wr n P St bt, it = .ref I ∧ Walks c.prog c.w A.in1 I fp wr n P St ∧ St 0 s₂.heap ∧ (∀ b ∈ fp, b < s₂.heap.objs.size) ∧ 0 < n ∧ CmpOf c.prog c.w A.in1 op P bt ∧
      ∀ v h' tk, P (argBest bt (n - 1)) v → (∀ b o, b ∉ wr → s₂.heap.get? b = some o → h'.get? b = some o) → s.toks ≤ tk → Q v { s₂ with heap := h', toks := tk }) Ex s := by
  obtain ⟨a, vs, rfl, hl, hs⟩ := w.g.list r
  have hlt : a < s.heap.objs.size := by obtain ⟨o, e, _⟩ := hl; exact Heap.lt_size e
  refine wpAny_pyIter_list hl ?_
  obtain ⟨h1, h2, h3⟩ := bestOf_inv ho e
  have hsz : vs.toArray.size = l.length := by simp [hs.length]
  refine ⟨s.heap.objs.size, _, _, vs.toArray.size, _, _, btOf op l, rfl, Walks.list (A := A.in1) hh s.heap.objs.size a (Nat.ne_of_lt hlt) vs.toArray, ⟨⟨_, Heap.get?_push_size _ rfl, rfl, rfl⟩, hl.push _⟩, fun b hb => ?_, by omega, cmpOf_num (A := A.in1) ho hs h2, fun v h' tk hv hk ht => ?_⟩
  · rw [Heap.size_push]
    simp at hb
    rcases hb with rfl | rfl
    · exact Nat.lt_succ_self _
    · exact Nat.lt_succ_of_lt hlt
  · rw [hsz] at hv
    obtain ⟨u, q1, q2⟩ := hs.get h3
    simp at hv
    rw [q1] at hv; cases hv
    exact h v _ (Kp.mk2 (fun b o e => hk b o (by simp; exact Nat.ne_of_lt (Heap.lt_size e)) (Heap.get?_push_of_some _ e)) ht) (.old q2)

theorem bestTup {op : CmpOp} {l : List D} {d : D} {vs : List Value} {Q : Value → Shared → Prop} {Ex : Value → Shared → Prop} (hh : A.handled = none) (ho : IsGL op) (hs : Rvs c.C F ρ vs l) (e : bestOf op l = some d)
    (h : ∀ v s', Kp s s' → Res c F ρ s s' v d → Q v s') :
    wpAny (model c.prog c.w) A.in1 (pyIter (.ref s.heap.objs.size)) (fun it s₂ => ∃ I fp wr n P St bt, it = .ref I ∧ Walks c.prog c.w A.in1 I fp wr n P St ∧ St 0 s₂.heap ∧ (∀ b ∈ fp, b < s₂.heap.objs.size) ∧ 0 < n ∧ CmpOf c.prog c.w A.in1 op P bt ∧
      ∀ v h' tk, P (argBest bt (n - 1)) v → (∀ b o, b ∉ wr → s₂.heap.get? b = some o → h'.get? b = some o) → s.toks ≤ tk → Q v { s₂ with heap := h', toks := tk }) Ex { s with heap := s.heap.push { cls := .type "tuple", data := .seq vs.toArray } } := by
  have hl : (s.heap.push { cls := .type "tuple", data := .seq vs.toArray }).IsTuple s.heap.objs.size vs.toArray := ⟨_, Heap.get?_push_size _ rfl, rfl, _, rfl⟩
  refine wpAny_pyIter_tuple (s := { s with heap := s.heap.push { cls := .type "tuple", data := .seq vs.toArray } }) hl ?_
  obtain ⟨h1, h2, h3⟩ := bestOf_inv ho e
  have hsz : vs.toArray.size = l.length := by simp [hs.length]
  have hz : ({ s with heap := s.heap.push { cls := .type "tuple", data := .seq vs.toArray } } : Shared).heap.objs.size = s.heap.objs.size + 1 := Heap.size_push ..
  have hI : ((s.heap.push { cls := .type "tuple", data := .seq vs.toArray }).push { cls := .type "tuple_iterator", data := .fields #[.ref s.heap.objs.size, .int 0 0] }).IsTupleIter (s.heap.objs.size + 1) s.heap.objs.size 0 := by
    have := Heap.get?_push_size (s.heap.push { cls := .type "tuple", data := .seq vs.toArray }) (o := { cls := .type "tuple_iterator", data := .fields #[.ref s.heap.objs.size, .int 0 0] }) rfl
    rw [Heap.size_push] at this
    exact ⟨_, this, rfl, rfl⟩
  rw [hz]
  refine ⟨s.heap.objs.size + 1, _, _, vs.toArray.size, _, _, btOf op l, rfl, Walks.tuple (A := A.in1) hh (s.heap.objs.size + 1) s.heap.objs.size (Nat.ne_of_lt (Nat.lt_succ_self _)) vs.toArray, ⟨hI, hl.push _⟩, fun b hb => ?_, by omega, cmpOf_num (A := A.in1) ho hs h2, fun v h' tk hv hk ht => ?_⟩
  · rw [Heap.size_push, Heap.size_push]
    simp at hb
    rcases hb with rfl | rfl
    · exact Nat.lt_succ_self _
    · exact Nat.lt_succ_of_lt (Nat.lt_succ_self _)
  · rw [hsz] at hv
    obtain ⟨u, q1, q2⟩ := hs.get h3
    simp at hv
    rw [q1] at hv; cases hv
    exact h v _ (Kp.mk2 (fun b o e => hk b o (by simp; exact Nat.ne_of_lt (Nat.lt_succ_of_lt (Heap.lt_size e))) (Heap.get?_push_of_some _ (Heap.get?_push_of_some _ e))) ht) (.old q2)

theorem intsOf_nums : ∀ {vs : List Value} {xs : List D} {is : List Int}, Rvs c.C F ρ vs xs → intsOf xs = some is → AllInts vs.toArray ∧ (numsOf vs).sum = sumInts is
  | _, _, is, .nil, e => by simp [intsOf] at e; subst e; exact ⟨fun v hv => by simp at hv, rfl⟩
  | _, _, is, .cons hv hs, e => by
    cases hv <;> simp [intsOf] at e
    obtain ⟨r, e1, rfl⟩ := e
    obtain ⟨q1, q2⟩ := intsOf_nums hs e1
    refine ⟨fun v hv => ?_, ?_⟩
    · simp at hv
      rcases hv with rfl | hv
      · exact ⟨_, _, rfl⟩
      · exact q1 v (by simpa using hv)
    · show (_ :: numsOf _).sum = _
      rw [List.sum_cons, q2]; rfl
end
end Ev
end
section
set_option maxRecDepth 100000
set_option autoImplicit false
set_option linter.all false
namespace Ev
open PySem PySem.W PySem.Calls PyProof.Rows PySem.SeqAt

/-- sorted(): to be shown where a program needs it -/
def SortOk (c : Cx) : Prop := ∀ (nm : Nm) (X : PMap) (env : Env) fa F ρ vars σ s (A : Around) (v : Value) xs d (Q : Value → Shared → Prop) Ex, A.handled = none → Good 0 A → W c nm X env fa F ρ vars σ s → Rd c F ρ s.heap v (.lst xs) → biD .sorted [.lst xs] = some d →
  (∀ v s', Kp s s' → Res c F ρ s s' v d → Q v s') → wpAny (model c.prog c.w) A (call (.builtin "sorted") [v]) Q Ex s

section
variable {c : Cx} {nm : Nm} {X : PMap} {fa : List (Option Addr)} {σ σ' σ1 σ2 σ3 σ4 : Sto} {env : Env} {vars vars' vars1 : Vars} {A : Around} {F F' F0 : FM} {ρ ρ' ρ0 : List (List Addr)} {s s' : Shared} {fl : Flw}

theorem Kp.tok2 : Kp s { s with toks := s.toks + 1 + 1 } := Kp.toks' (by omega)

theorem Rds.one {h : Heap} {vs : List Value} {x : D} (r : Rds c F ρ h vs [x]) : ∃ v, vs = [v] ∧ Rd c F ρ h v x := by
  cases r with
  | cons r rs => cases rs; exact ⟨_, rfl, r⟩

theorem biOk {b : Bi} {ds : List D} {d : D} {vs : List Value} {Q : Value → Shared → Prop} {Ex : Value → Shared → Prop} (hh : A.handled = none) (gd : Good 0 A) (hso : b = .sorted → SortOk c) (w : W c nm X env fa F ρ vars σ s) (r : Rds c F ρ s.heap vs ds) (e : biD b ds = some d)
    (h : ∀ v s', Kp s s' → Res c F ρ s s' v d → Q v s') : wpAny (model c.prog c.w) A (call (biVal b) vs) Q Ex s := by
  have hfit : ∀ {n : Nat}, n ≤ maxLen → (n : Int) < 2 ^ 63 := fun hn => by unfold maxLen at hn; omega
  have e0 := e
  unfold biD at e
  split at e
  · -- len str
    rename_i a
    split at e
    · rename_i hn
      cases e
      obtain ⟨v, hv, ra⟩ := r.one; clear r; subst hv; have r := ra; clear ra
      cases r with
      | old r => cases r with
        | str _ t =>
        have := hfit hn
        refine len_str (x := ⟨a.toArray⟩) (by rw [str_length]; omega) ?_
        rw [str_length]
        exact h _ _ .tok2 (.old (.int _ _))
    · cases e
  · split at e
    · rename_i a hn
      cases e
      obtain ⟨v, hv, ra⟩ := r.one; clear r; subst hv; have r := ra; clear ra
      obtain ⟨l, us, rfl, hl, hs⟩ := w.g.list r
      have hz : us.toArray.size = a.length := by simp [hs.length]
      refine call_len_list hl (by rw [hz]; exact hfit hn) ?_
      rw [hz]
      exact h _ _ .tok2 (.old (.int _ _))
    · cases e
  · split at e
    · rename_i a hn
      cases e
      obtain ⟨v, hv, ra⟩ := r.one; clear r; subst hv; have r := ra; clear ra
      obtain ⟨l, us, rfl, hl, hs⟩ := w.g.tuple r
      have hz : us.toArray.size = a.length := by simp [hs.length]
      have ht : IsTup s.heap l us.toArray := hl
      refine PyProof.Rows.len_tuple ht (by rw [hz]; exact hfit hn) ?_
      rw [hz]
      exact h _ _ .tok2 (.old (.int _ _))
    · cases e
  · -- max of a list
    obtain ⟨v, hv, ra⟩ := r.one; clear r; subst hv; have r := ra; clear ra
    refine wpAny_with_toks (n := s.toks) (Nat.le_refl _) (call_max_walk (wpAny_mono (bestList hh (.inl rfl) w r e h) (fun it s2 ⟨I, fp, wr, n, P, St, bt, a1, a2, a3, a4, a5, a6, a7⟩ => ⟨I, fp, wr, n, P, St, bt, a1, a2, a3, a4, a5, a6, fun v h' tk q1 q2 ht => a7 v h' tk q1 q2 ht⟩) fun _ _ e _ => e))
  · obtain ⟨v, hv, ra⟩ := r.one; clear r; subst hv; have r := ra; clear ra
    refine wpAny_with_toks (n := s.toks) (Nat.le_refl _) (call_min_walk (wpAny_mono (bestList hh (.inr rfl) w r e h) (fun it s2 ⟨I, fp, wr, n, P, St, bt, a1, a2, a3, a4, a5, a6, a7⟩ => ⟨I, fp, wr, n, P, St, bt, a1, a2, a3, a4, a5, a6, fun v h' tk q1 q2 ht => a7 v h' tk q1 q2 ht⟩) fun _ _ e _ => e))
  · -- max of two
    have hs := r.nums (bestOf_all e)
    match vs, hs with
    | [v1, v2], hs =>
      refine wpAny_with_toks (n := s.toks) (Nat.le_refl _) (call_max_two (wpAny_mono (bestTup hh (.inl rfl) hs e h) (fun it s2 ⟨I, fp, wr, n, P, St, bt, a1, a2, a3, a4, a5, a6, a7⟩ => ⟨I, fp, wr, n, P, St, bt, a1, a2, a3, a4, a5, a6, fun v h' tk q1 q2 ht => a7 v h' tk q1 q2 ht⟩) fun _ _ e _ => e))
  · have hs := r.nums (bestOf_all e)
    match vs, hs with
    | [v1, v2], hs =>
      refine wpAny_with_toks (n := s.toks) (Nat.le_refl _) (call_min_two (wpAny_mono (bestTup hh (.inr rfl) hs e h) (fun it s2 ⟨I, fp, wr, n, P, St, bt, a1, a2, a3, a4, a5, a6, a7⟩ => ⟨I, fp, wr, n, P, St, bt, a1, a2, a3, a4, a5, a6, fun v h' tk q1 q2 ht => a7 v h' tk q1 q2 ht⟩) fun _ _ e _ => e))
  · have hs := r.nums (bestOf_all e)
    match vs, hs with
    | [v1, v2, v3], hs =>
      refine wpAny_with_toks (n := s.toks) (Nat.le_refl _) (call_max_three (wpAny_mono (bestTup hh (.inl rfl) hs e h) (fun it s2 ⟨I, fp, wr, n, P, St, bt, a1, a2, a3, a4, a5, a6, a7⟩ => ⟨I, fp, wr, n, P, St, bt, a1, a2, a3, a4, a5, a6, fun v h' tk q1 q2 ht => a7 v h' tk q1 q2 ht⟩) fun _ _ e _ => e))
  · have hs := r.nums (bestOf_all e)
    match vs, hs with
    | [v1, v2, v3], hs =>
      refine wpAny_with_toks (n := s.toks) (Nat.le_refl _) (call_min_three (wpAny_mono (bestTup hh (.inr rfl) hs e h) (fun it s2 ⟨I, fp, wr, n, P, St, bt, a1, a2, a3, a4, a5, a6, a7⟩ => ⟨I, fp, wr, n, P, St, bt, a1, a2, a3, a4, a5, a6, fun v h' tk q1 q2 ht => a7 v h' tk q1 q2 ht⟩) fun _ _ e _ => e))
  · -- abs
    cases e
    obtain ⟨v, hv, ra⟩ := r.one; clear r; subst hv; have r := ra; clear ra
    cases r with
    | old r => cases r with
      | int _ t => exact wpAny_with_toks (n := s.toks) (Nat.le_refl _) (call_abs_int fun u tk ht => h _ _ (.toks' ht) (.old (.int _ u)))
  · -- round
    obtain ⟨i, e1, rfl⟩ := Option.map_eq_some_iff.mp e
    obtain ⟨v, hv, ra⟩ := r.one; clear r; subst hv; have r := ra; clear ra
    unfold roundD at e1
    split at e1
    · rename_i sg m ex hd
      cases e1
      cases r with
      | old r => cases r with
        | flt ht =>
        refine PySem.Flt.round_via1 (call_gives PySem.F.slot_float_round (PySem.typeIs_float _ _ _) PySem.F.entry_float_round (PySem.F.args_float_round_1 _) (PySem.Flt.gives_round _ hd) ?_)
        exact h _ _ .tok (.old (.int _ _))
    · cases e1
  · -- sum
    obtain ⟨is, e1, rfl⟩ := Option.map_eq_some_iff.mp e
    obtain ⟨v, hv, ra⟩ := r.one; clear r; subst hv; have r := ra; clear ra
    obtain ⟨l, us, rfl, hl, hs⟩ := w.g.list r
    obtain ⟨q1, q2⟩ := intsOf_nums hs e1
    obtain ⟨ps, hps⟩ := q1.items
    rw [hps] at hl
    refine wpAny_with_toks (n := s.toks) (Nat.le_refl _) (PySem.sum_intListG hh hl fun h' tk t' hk ht => ?_)
    have : preSum (numAt ps) ps.size = sumInts is := by
      rw [preSum_eq, List.take_of_length_le (by simp), ← nums_intItems, ← hps, ← q2]
    rw [this]
    exact h _ _ (Kp.mk2 hk ht) (.old (.int _ _))
  · -- sorted
    obtain ⟨v, hv, ra⟩ := r.one; clear r; subst hv; have r := ra; clear ra
    exact hso rfl nm X env fa F ρ vars σ s A v _ d Q Ex hh gd w r e0 h
  · -- tuple
    split at e
    · rename_i xs hn
      cases e
      obtain ⟨v, hv, ra⟩ := r.one; clear r; subst hv; have r := ra; clear ra
      obtain ⟨l, us, rfl, hl, hs⟩ := w.g.list r
      refine call_tuple_list hl (fun h' hk => ?_) (by rw [List.size_toArray, hs.length]; exact size_of_maxLen hn)
      have hnone : s.heap.get? h'.objs.size = none := by
        cases q : s.heap.get? h'.objs.size with
        | none => rfl
        | some o => exact absurd (Heap.lt_size (hk _ o q)) (Nat.lt_irrefl _)
      exact h _ _ (Kp.mk2 (tk := s.toks) (fun b o e => Heap.get?_push_of_some _ (hk b o e)) (Nat.le_refl _)) (.tup (vs := us) (n := 0) hnone (Heap.get?_push_size _ rfl) rfl rfl hs)
    · cases e
  · -- divmod
    split at e
    · cases e
    · rename_i x y hc
      cases e
      simp only [Bool.or_eq_true, beq_iff_eq, Bool.not_eq_true', not_or, Bool.not_eq_false] at hc
      cases r with
      | cons r1 rs => cases rs with
        | cons r2 rs =>
        cases rs
        cases r1 with
        | old r1 => cases r2 with
          | old r2 =>
          cases r1 with
          | int _ t => cases r2 with
            | int _ u =>
            refine PyProof.Rows.divmod_int hc.1 ?_ (.inl (noPy_small hc.2))
            exact h _ _ (Kp.mk2 (fun b o e => Heap.get?_push_of_some _ e) (by omega)) (.tup (vs := [.int (x.fdiv y) s.toks, .int (x.fmod y) (s.toks + 1)]) (n := 0) (none_at_size _) (Heap.get?_push_size _ rfl) rfl rfl (.cons (.int _ _) (.cons (.int _ _) .nil)))
  · cases e

theorem biVal_id : ∀ b, ∃ T, biVal b = .type T ∨ biVal b = .builtin T := by
  intro b; cases b <;> first | exact ⟨_, .inl rfl⟩ | exact ⟨_, .inr rfl⟩

theorem EvV.bi {x : Str} {b : Bi} {p pos : Pos} {args : List Expr} {ds xs : List D} {d : D} (hh : A.handled = none) (gd : Good 0 A) (Z : Bas c) (N : BiFree c) (hso : b = .sorted → SortOk c) (hx : isGlob nm x = true) (hb : x = biName b)
    (hns : (starEach args env).all (!·.1) = true) (ha : EvL c nm X env fa A (spliced (backTo pos (starEach args env))) vars σ ds σ1) (er : ress σ1 ds = some xs) (e : biD b xs = some d) :
    EvV c nm X env fa A (eval (.Call (.Name x p) args [] pos) env) vars σ d σ1 := by
  intro F ρ s Q Ex w post
  obtain ⟨T, hT⟩ := biVal_id b
  refine biCall (T := T) Z N hx hb hT hns ha w fun F1 ρ1 vs s1 l1 p1 w1 r1 => ?_
  refine biOk hh gd hso w1 (w1.g.rds r1 er) e fun v s2 k r => ?_
  obtain ⟨F2, l2, w2, r2⟩ := w1.res k r
  exact post F2 ρ1 v s2 (l1.trans l2) p1 w2 r2

theorem join_fold (sep : Array Nat) : ∀ (r : List Str) (c x : Array Nat), r.foldl (fun (acc : Array Nat) (p : Str) => acc ++ sep ++ p.cps) (c ++ x) = c ++ r.foldl (fun (acc : Array Nat) (p : Str) => acc ++ sep ++ p.cps) x
  | [], c, x => rfl
  | p :: r, c, x => by
    simp only [List.foldl_cons]
    rw [← join_fold sep r c (x ++ sep ++ p.cps)]
    simp [Array.append_assoc]
theorem join_cons (sep a b : Str) (r : List Str) : Txt.join sep (a :: b :: r) = ⟨a.cps ++ sep.cps ++ (Txt.join sep (b :: r)).cps⟩ := by
  show Str.mk ((b :: r).foldl (fun (acc : Array Nat) (p : Str) => acc ++ sep.cps ++ p.cps) a.cps) = Str.mk (a.cps ++ sep.cps ++ r.foldl (fun (acc : Array Nat) (p : Str) => acc ++ sep.cps ++ p.cps) b.cps)
  rw [List.foldl_cons, join_fold]

theorem joinD_strs {F : FM} {ρ : List (List Addr)} {sep : List Nat} : ∀ {vs : List Value} {xs : List D} {t : List Nat}, Rvs c.C F ρ vs xs → joinD sep xs = some t →
    ∃ ys : List (List Nat), StrsAre vs (ys.map fun y => (⟨y.toArray⟩ : Str)) ∧ Txt.join ⟨sep.toArray⟩ (ys.map fun y => (⟨y.toArray⟩ : Str)) = ⟨t.toArray⟩ ∧ (ys.map List.length).sum + ys.length * sep.length ≤ t.length + sep.length ∧ ys.length = xs.length
  | _, _, t, .nil, e => by simp [joinD] at e; subst e; exact ⟨[], .nil, rfl, by simp, rfl⟩
  | _, _, t, .cons (xs := []) r .nil, e => by
    cases r <;> simp [joinD] at e
    subst e
    rename_i xs u
    exact ⟨[xs], .cons _ u .nil, rfl, by simp, rfl⟩
  | _, _, t, .cons (xs := x :: xs) r rs, e => by
    cases r <;> simp [joinD] at e
    rename_i a u
    obtain ⟨t', e1, rfl⟩ := e
    obtain ⟨ys, q1, q2, q3, q4⟩ := joinD_strs rs e1
    cases ys with
    | nil => simp at q4
    | cons y ys =>
      refine ⟨a :: y :: ys, .cons _ u q1, ?_, ?_, by simp [q4]⟩
      · have h2 := congrArg Str.cps q2
        rw [List.map_cons, List.map_cons, join_cons]
        rw [List.map_cons] at h2
        rw [h2]
        simp
      · simp only [List.map_cons, List.sum_cons, List.length_cons, List.length_append] at q3 ⊢
        rw [Nat.succ_mul]
        omega

theorem EvV.join {o a : Expr} {apos pos : Pos} {y : D} {sep t : List Nat} {xs : List D} (hb : plainBase o = true) (hp : (apos.endLine == pos.line) = true) (hs1 : starEach [a] env = (false, eval a env) :: starEach [] env)
    (ho : EvV c nm X env fa A (eval o env) vars σ (.str sep) σ1) (ha : EvV c nm X env fa A (eval a env) vars σ1 y σ2) (hy : res σ2 y = some (.lst xs)) (e : joinD sep xs = some t) (hz : t.length + xs.length + sep.length ≤ maxLen) :
    EvV c nm X env fa A (eval (.Call (.Attribute o ("join" : Str) apos) [a] [] pos) env) vars σ (.str t) σ2 := by
  intro F ρ s Q Ex w post
  have hns : (starEach [a] env).all (!·.1) = true := by rw [hs1]; rfl
  refine MCall hb hp (by simp) hns (ho F ρ s _ Ex w fun F1 ρ1 v1 s1 l1 p1 w1 r1 => fun pl => ?_)
  cases r1 with
  | str _ tk =>
  refine getMethod_builtin (typeIs_str _ _ _) PySem.F.plainAttrs_str PySem.F.slot_str_join PySem.F.type_str_join (fun _ e => nomatch e) ?_
  refine CallB hns ((EvL.cons (ds := []) hs1 ha EvL.nil) F1 ρ1 s1 _ Ex w1 fun F2 ρ2 vs s2 l2 p2 w2 r2 => ?_)
  cases r2 with
  | @cons u _ _ _ ru rn =>
  cases rn
  obtain ⟨l, us, rfl, hl, hr⟩ := w2.g.list (w2.g.rd ru hy)
  obtain ⟨ys, q1, q2, q3, q4⟩ := joinD_strs hr e
  have hm : maxLen = 1048576 := rfl
  have hlen : ((ys.map fun y => (⟨y.toArray⟩ : Str)).map (·.length)).sum = (ys.map List.length).sum := by
    rw [List.map_map]
    congr 1
  refine wpAny_with_toks (n := s2.toks) (Nat.le_refl _) (PyProof.Rows.join_list hl (by simpa using q1) (by rw [hlen, List.length_map, str_length]; omega) fun t' k ht => ?_)
  rw [q2]
  exact post F2 ρ2 _ _ (l1.trans l2) (p1.trans p2) (w2.keep (.toks' ht)) (.str _ _)
end
end Ev
end
section
set_option maxRecDepth 100000
set_option autoImplicit false
set_option linter.all false
namespace Ev
open PySem PySem.W PySem.Calls PyProof.Rows PySem.SeqAt

section
variable {c : Cx} {nm : Nm} {X : PMap} {fa : List (Option Addr)} {σ σ' σ1 σ2 σ3 σ4 : Sto} {env : Env} {vars vars' vars1 : Vars} {A : Around} {F F' F0 : FM} {ρ ρ' ρ0 : List (List Addr)} {s s' : Shared} {fl : Flw}

theorem EvV.and {a b : Expr} {pos : Pos} {x x' d : D} {t : Bool} (ha : EvV c nm X env fa A (eval a env) vars σ x σ1) (ex : res σ1 x = some x') (et : truthD x' = some t)
    (hb : t = true → EvV c nm X env fa A (eval b env) vars σ1 d σ2) (h0 : t = false → d = x ∧ σ2 = σ1) : EvV c nm X env fa A (eval (.BoolOp .And [a, b] pos) env) vars σ d σ2 := by
  intro F ρ s Q Ex w post
  show wpAny _ _ (eval a env >>= fun v => standAt pos >>= fun _ => holding [v] (truthy v) >>= fun t => match BoolOp.And, t with
    | .And, false | .Or, true => pure v
    | _, _ => boolOp pos .And [eval b env]) Q Ex s
  refine wpAny_bind (ha F ρ s _ Ex w fun F1 ρ1 v1 s1 l1 p1 w1 r1 => wpAny_bind (wpAny_standAt (wpAny_bind (wpAny_holding ?_))))
  refine truthOk w1.g (w1.g.rd r1 ex) et fun s2 k => ?_
  cases t with
  | false =>
    obtain ⟨rfl, rfl⟩ := h0 rfl
    exact wpAny_pure (post F1 ρ1 v1 s2 l1 p1 (w1.keep k) r1)
  | true => exact hb rfl F1 ρ1 s2 _ Ex (w1.keep k) fun F2 ρ2 v2 s3 l2 p2 w2 r2 => post F2 ρ2 v2 s3 (l1.trans l2) (p1.trans p2) w2 r2
theorem EvV.or {a b : Expr} {pos : Pos} {x x' d : D} {t : Bool} (ha : EvV c nm X env fa A (eval a env) vars σ x σ1) (ex : res σ1 x = some x') (et : truthD x' = some t)
    (hb : t = false → EvV c nm X env fa A (eval b env) vars σ1 d σ2) (h0 : t = true → d = x ∧ σ2 = σ1) : EvV c nm X env fa A (eval (.BoolOp .Or [a, b] pos) env) vars σ d σ2 := by
  intro F ρ s Q Ex w post
  show wpAny _ _ (eval a env >>= fun v => standAt pos >>= fun _ => holding [v] (truthy v) >>= fun t => match BoolOp.Or, t with
    | .And, false | .Or, true => pure v
    | _, _ => boolOp pos .Or [eval b env]) Q Ex s
  refine wpAny_bind (ha F ρ s _ Ex w fun F1 ρ1 v1 s1 l1 p1 w1 r1 => wpAny_bind (wpAny_standAt (wpAny_bind (wpAny_holding ?_))))
  refine truthOk w1.g (w1.g.rd r1 ex) et fun s2 k => ?_
  cases t with
  | true =>
    obtain ⟨rfl, rfl⟩ := h0 rfl
    exact wpAny_pure (post F1 ρ1 v1 s2 l1 p1 (w1.keep k) r1)
  | false => exact hb rfl F1 ρ1 s2 _ Ex (w1.keep k) fun F2 ρ2 v2 s3 l2 p2 w2 r2 => post F2 ρ2 v2 s3 (l1.trans l2) (p1.trans p2) w2 r2
theorem EvV.ite {t a b : Expr} {pos : Pos} {v : Bool} {d : D} (h : EvB c nm X env fa A (isTrue t env (eval t env)) vars σ v σ1)
    (ha : v = true → EvV c nm X env fa A (eval a env) vars σ1 d σ2) (hb : v = false → EvV c nm X env fa A (eval b env) vars σ1 d σ2) : EvV c nm X env fa A (eval (.IfExp t a b pos) env) vars σ d σ2 := by
  intro F ρ s Q Ex w post
  refine wpAny_IfExp (h F ρ s _ Ex w fun F1 ρ1 s1 l1 p1 w1 => ?_)
  cases v with
  | true => exact ha rfl F1 ρ1 s1 _ Ex w1 fun F2 ρ2 f s2 l2 p2 w2 r2 => post F2 ρ2 f s2 (l1.trans l2) (p1.trans p2) w2 r2
  | false => exact hb rfl F1 ρ1 s1 _ Ex w1 fun F2 ρ2 f s2 l2 p2 w2 r2 => post F2 ρ2 f s2 (l1.trans l2) (p1.trans p2) w2 r2

/-! tests -/
theorem EvB.not {a : Expr} {pos : Pos} {t : Bool} {whole : Sem Value} (h : EvB c nm X env fa A (isTrue a env (eval a env)) vars σ t σ1) : EvB c nm X env fa A (isTrue (.UnaryOp .Not a pos) env whole) vars σ (!t) σ1 :=
  fun F ρ s Q Ex w post => wpAny_isTrue_Not (h F ρ s _ Ex w post)
theorem EvB.and {a b : Expr} {pos : Pos} {t u : Bool} {whole : Sem Value} (ha : EvB c nm X env fa A (isTrue a env (eval a env)) vars σ t σ1) (hb : t = true → EvB c nm X env fa A (isTrue b env (eval b env)) vars σ1 u σ2) (h0 : t = false → u = false ∧ σ2 = σ1) :
    EvB c nm X env fa A (isTrue (.BoolOp .And [a, b] pos) env whole) vars σ u σ2 := by
  intro F ρ s Q Ex w post
  show wpAny _ _ (isTrue a env (eval a env) >>= fun t => match BoolOp.And, t with
    | .And, false => pure false
    | .Or, true => pure true
    | _, _ => isTrue b env (eval b env) >>= fun u => match BoolOp.And, u with
      | .And, false => pure false
      | .Or, true => pure true
      | _, _ => pure true) Q Ex s
  refine wpAny_bind (ha F ρ s _ Ex w fun F1 ρ1 s1 l1 p1 w1 => ?_)
  cases t with
  | false => obtain ⟨rfl, rfl⟩ := h0 rfl; exact wpAny_pure (post F1 ρ1 s1 l1 p1 w1)
  | true =>
    refine wpAny_bind (hb rfl F1 ρ1 s1 _ Ex w1 fun F2 ρ2 s2 l2 p2 w2 => ?_)
    cases u <;> exact wpAny_pure (post F2 ρ2 s2 (l1.trans l2) (p1.trans p2) w2)
theorem EvB.or {a b : Expr} {pos : Pos} {t u : Bool} {whole : Sem Value} (ha : EvB c nm X env fa A (isTrue a env (eval a env)) vars σ t σ1) (hb : t = false → EvB c nm X env fa A (isTrue b env (eval b env)) vars σ1 u σ2) (h0 : t = true → u = true ∧ σ2 = σ1) :
    EvB c nm X env fa A (isTrue (.BoolOp .Or [a, b] pos) env whole) vars σ u σ2 := by
  intro F ρ s Q Ex w post
  show wpAny _ _ (isTrue a env (eval a env) >>= fun t => match BoolOp.Or, t with
    | .And, false => pure false
    | .Or, true => pure true
    | _, _ => isTrue b env (eval b env) >>= fun u => match BoolOp.Or, u with
      | .And, false => pure false
      | .Or, true => pure true
      | _, _ => pure false) Q Ex s
  refine wpAny_bind (ha F ρ s _ Ex w fun F1 ρ1 s1 l1 p1 w1 => ?_)
  cases t with
  | true => obtain ⟨rfl, rfl⟩ := h0 rfl; exact wpAny_pure (post F1 ρ1 s1 l1 p1 w1)
  | false =>
    refine wpAny_bind (hb rfl F1 ρ1 s1 _ Ex w1 fun F2 ρ2 s2 l2 p2 w2 => ?_)
    cases u <;> exact wpAny_pure (post F2 ρ2 s2 (l1.trans l2) (p1.trans p2) w2)
theorem EvB.dflt {e : Expr} {x x' : D} {b : Bool} (h : EvV c nm X env fa A (eval e env) vars σ x σ1) (ex : res σ1 x = some x') (et : truthD x' = some b)
    (he : isTrue e env (eval e env) = (do let v ← eval e env; standAt e.pos; holding [v] (truthy v))) : EvB c nm X env fa A (isTrue e env (eval e env)) vars σ b σ1 := by
  intro F ρ s Q Ex w post
  rw [he]
  refine wpAny_bind (h F ρ s _ Ex w fun F1 ρ1 v1 s1 l1 p1 w1 r1 => wpAny_bind (wpAny_standAt (wpAny_holding ?_)))
  exact truthOk w1.g (w1.g.rd r1 ex) et fun s2 k => post F1 ρ1 s2 l1 p1 (w1.keep k)

theorem EvB.tnil : EvB c nm X env fa A (forIn ([] : List Expr) true fun c r => if r = true then do let ok ← isTrue c env (eval c env); pure (ForInStep.yield ok) else pure (ForInStep.yield r)) vars σ true σ :=
  fun F ρ s Q Ex w post => wpAny_tests_nil (post F ρ s PLe.rfl (List.prefix_refl _) w)
theorem tests_false {r : List Expr} : (forIn r false fun c r => if r = true then do let ok ← isTrue c env (eval c env); pure (ForInStep.yield ok) else pure (ForInStep.yield r)) = (pure false : Sem Bool) := by
  induction r with
  | nil => rfl
  | cons e r ih => rw [List.forIn_cons]; exact ih
theorem EvB.tcons {e : Expr} {r : List Expr} {t u : Bool} (h : EvB c nm X env fa A (isTrue e env (eval e env)) vars σ t σ1) (hr : t = true → EvB c nm X env fa A (forIn r true fun c r => if r = true then do let ok ← isTrue c env (eval c env); pure (ForInStep.yield ok) else pure (ForInStep.yield r)) vars σ1 u σ2)
    (h0 : t = false → u = false ∧ σ2 = σ1) : EvB c nm X env fa A (forIn (e :: r) true fun c r => if r = true then do let ok ← isTrue c env (eval c env); pure (ForInStep.yield ok) else pure (ForInStep.yield r)) vars σ u σ2 := by
  intro F ρ s Q Ex w post
  rw [List.forIn_cons]
  simp only [if_true]
  refine wpAny_bind (wpAny_bind (h F ρ s _ Ex w fun F1 ρ1 s1 l1 p1 w1 => wpAny_pure ?_))
  dsimp only
  cases t with
  | false => obtain ⟨rfl, rfl⟩ := h0 rfl; rw [tests_false]; exact wpAny_pure (post F1 ρ1 s1 l1 p1 w1)
  | true => exact hr rfl F1 ρ1 s1 _ Ex w1 fun F2 ρ2 s2 l2 p2 w2 => post F2 ρ2 s2 (l1.trans l2) (p1.trans p2) w2
end

/-! what a tree that compiles is not -/
theorem star_cons {C : Cc} {nm : Nm} {k : Nat} {e : Expr} {E : Ev.E} {es : List Expr} {env : Env} (h : compE C k nm e = some E) : starEach (e :: es) env = (false, eval e env) :: starEach es env := by
  cases k with
  | zero => simp [compE] at h
  | succ k => cases e <;> first | rfl | (simp [compE] at h)
theorem star_all {C : Cc} {nm : Nm} {env : Env} : ∀ {k : Nat} {es : List Expr} {Es : List Ev.E}, compEs C k nm es = some Es → (starEach es env).all (!·.1) = true
  | 0, es, Es, h => by simp [compEs] at h
  | k + 1, [], Es, h => rfl
  | k + 1, e :: es, Es, h => by
    unfold compEs at h
    obtain ⟨a, h1, h2⟩ := Option.bind_eq_some_iff.mp h
    obtain ⟨b, h3, h4⟩ := Option.map_eq_some_iff.mp h2
    rw [star_cons h1, List.all_cons, star_all h3]; rfl
theorem noFold {C : Cc} {nm : Nm} {k : Nat} {e : Expr} {E : Ev.E} {env : Env} (h : compE C k nm e = some E) : ∀ x, foldedSetIterable e env x = pure x := by
  cases k with
  | zero => simp [compE] at h
  | succ k => cases e <;> first | (intro x; rfl) | (simp [compE] at h)
theorem noMark {C : Cc} {nm : Nm} {k : Nat} {e : Expr} {E : Ev.E} {op : CmpOp} (h : compE C k nm e = some E) : ∀ t : Sem Value, markedEach [op] [e] [t] = [t] := by
  cases k with
  | zero => simp [compE] at h
  | succ k => cases e <;> first | (intro x; rfl) | (simp [compE] at h)
theorem subscriptedPlain {C : Cc} {nm : Nm} {k : Nat} {i : Expr} {E : Ev.E} (h : compE C k nm i = some E) : ∀ o v, subscripted i false o v = operate [o, v] (getItem o v) := by
  cases k with
  | zero => simp [compE] at h
  | succ k => cases i <;> first | (intro o v; rfl) | (simp [compE] at h)
end Ev
end
section
set_option maxRecDepth 100000
set_option autoImplicit false
set_option linter.all false
namespace Ev
open PySem PySem.W PySem.Calls PyProof.Rows PySem.SeqAt

/-- what the defs that a body calls answer -/
structure DlOk (c : Cx) (C : Cc) (Δ : Dl) (n : Nat) : Prop where
  Z : Bas c
  N : BiFree c
  cls : ClsOk c
  cset : ClsSet c
  nb : NoneBooked c.B
  fn : ∀ x f, strIdx C.fns x = some f → ∃ v, nsIn c.K mainGlobals x = some (some v) ∧ keepIn c.K v = true ∧ PureC c n v (Δ.fns f)
  mu : ∀ x f, strIdx C.muts x = some f → ∃ v, nsIn c.K mainGlobals x = some (some v) ∧ keepIn c.K v = true ∧ MutC c n v (Δ.muts f)
  me : ∀ m f, strIdx C.meths m = some f → ∃ g, findIn c.K (.ref c.C) m = some (some (.ref g)) ∧ isFn c.K (.ref g) = true ∧ plainGet c.K c.C m = true ∧ (∀ k, k < 5 → (attrName k == m) = false) ∧ keepIn c.K (.ref g) = true ∧ PureC c n (.ref g) (Δ.fns (methBase + f))
  nw : ∃ v, nsIn c.K mainGlobals C.cls = some (some v) ∧ keepIn c.K v = true ∧ NewC c n v Δ.new
  cat : ∀ nm X env fa A vars σ x p y pos t, isGlob nm x = true → (x == C.cls) = true → C.cattrs.lookup y = some t → EvV c nm X env fa A (eval (.Attribute (.Name x p) y pos) env) vars σ (.str t) σ
  hot : Δ.hot = true → c.pos = true
  srt : Δ.srt = true → SortOk c
  key : Δ.key = false
  spl : Δ.spl = false

structure Snd (c : Cx) (C : Cc) (Δ : Dl) (n0 n : Nat) : Prop where
  E : ∀ e k nm x env fa X A vars σ d σ', Good n0 A → compE C k nm x = some e → evE Δ n e vars σ = some (d, σ') → EvV c nm X env fa A (eval x env) vars σ d σ'
  Es : ∀ es k nm xs env fa X A vars σ ds σ' pos, Good n0 A → compEs C k nm xs = some es → evEs Δ n es vars σ = some (ds, σ') → EvL c nm X env fa A (spliced (backTo pos (starEach xs env))) vars σ ds σ'
  O : ∀ o k nm x env fa X A vars σ i σ', Good n0 A → compO C k nm x = some o → evO Δ n o vars σ = some (i, σ') → EvO c nm X env fa A (evalPart x env) vars σ i σ'
  B : ∀ e k nm x env fa X A vars σ b σ', Good n0 A → compE C k nm x = some e → trE Δ n e vars σ = some (b, σ') → EvB c nm X env fa A (isTrue x env (eval x env)) vars σ b σ'
  Ts : ∀ es k nm xs env fa X A vars σ b σ', Good n0 A → compEs C k nm xs = some es → tesE Δ n es vars σ = some (b, σ') →
    EvB c nm X env fa A (forIn xs true fun c r => if r = true then do let ok ← isTrue c env (eval c env); pure (ForInStep.yield ok) else pure (ForInStep.yield r)) vars σ b σ'
  It : ∀ e k nm nm' x t T env fa X A vars σ ds σ', Good n0 A → compE C k nm x = some e → compT nm' t = some T → itOk e T = true → itE Δ n e vars σ = some (ds, σ') → EvI c nm X env fa A t x vars σ ds σ' ∧ ds.length ≤ maxLen

theorem compT_tup {nm : Nm} {t : Expr} {is : List Nat} (h : compT nm t = some (.tup is)) : ∃ es n p, t = .Tuple es n p := by
  unfold compT at h
  split at h
  · obtain ⟨i, _, h2⟩ := Option.map_eq_some_iff.mp h; cases h2
  · exact ⟨_, _, _, rfl⟩
  · cases h

/-- a tree of tests -/
def E.special : E → Bool
  | .not _ => true
  | .both _ _ => true
  | .either _ _ => true
  | .ite _ _ _ => true
  | _ => false
def okO (o : Option E) : Prop := ∀ e, o = some e → e.special = false
theorem okO_none : okO none := fun _ h => by cases h
theorem okO_some {e : E} (h : e.special = false) : okO (some e) := fun _ q => by cases q; exact h
theorem okO_bind {α : Type} {o : Option α} {f : α → Option E} (h : ∀ a, okO (f a)) : okO (o.bind f) := fun e q => by
  obtain ⟨a, _, q⟩ := Option.bind_eq_some_iff.mp q
  exact h a e q
theorem okO_map {α : Type} {o : Option α} {f : α → E} (h : ∀ a, (f a).special = false) : okO (o.map f) := fun e q => by
  obtain ⟨a, _, rfl⟩ := Option.map_eq_some_iff.mp q
  exact h a
theorem okO_call {C : Cc} {nm : Nm} {k : Nat} {f : Expr} {as : List Expr} {ks : List Keyword} {p : Pos} : okO (compE C k nm (.Call f as ks p)) := by
  cases k with
  | zero => unfold compE; exact okO_none
  | succ k =>
    unfold compE
    split <;> (repeat' first | contradiction | exact okO_none | (refine okO_map fun _ => ?_; rfl) | (refine okO_bind fun _ => ?_) | (refine okO_some ?_; rfl) | split)
theorem okO_comp {C : Cc} {nm : Nm} {k : Nat} {e : Expr} {gs : List Comprehension} {sc : Scope} {p : Pos} : okO (compE C k nm (.ListComp e gs sc p)) := by
  cases k with
  | zero => unfold compE; exact okO_none
  | succ k =>
    unfold compE
    split <;> (repeat' first | contradiction | exact okO_none | (refine okO_map fun _ => ?_; rfl) | (refine okO_bind fun _ => ?_) | (refine okO_some ?_; rfl) | split)

section
variable {c : Cx} {C : Cc} {Δ : Dl} {n0 n : Nat}

theorem snd_Es (ih : Snd c C Δ n0 n) : ∀ es k nm xs env fa X A vars σ ds σ' pos, Good n0 A → compEs C k nm xs = some es → evEs Δ (n + 1) es vars σ = some (ds, σ') → EvL c nm X env fa A (spliced (backTo pos (starEach xs env))) vars σ ds σ' := by
  intro es k nm xs env fa X A vars σ ds σ' pos gd hc he
  cases k with
  | zero => simp [compEs] at hc
  | succ k =>
    cases xs with
    | nil =>
      unfold compEs at hc
      cases hc
      unfold evEs at he
      cases he
      exact EvL.nil
    | cons x xs =>
      unfold compEs at hc
      obtain ⟨a, h1, h2⟩ := Option.bind_eq_some_iff.mp hc
      obtain ⟨b, h3, rfl⟩ := Option.map_eq_some_iff.mp h2
      unfold evEs at he
      obtain ⟨⟨d, σ1⟩, h4, h5⟩ := Option.bind_eq_some_iff.mp he
      obtain ⟨⟨ds', σ2⟩, h6, h7⟩ := Option.map_eq_some_iff.mp h5
      cases h7
      exact EvL.cons (star_cons h1) (ih.E _ _ _ _ _ _ _ _ _ _ _ _ gd h1 h4) (ih.Es _ _ _ _ _ _ _ _ _ _ _ _ _ gd h3 h6)

theorem snd_O (ih : Snd c C Δ n0 n) : ∀ o k nm x env fa X A vars σ i σ', Good n0 A → compO C k nm x = some o → evO Δ (n + 1) o vars σ = some (i, σ') → EvO c nm X env fa A (evalPart x env) vars σ i σ' := by
  intro o k nm x env fa X A vars σ i σ' gd hc he
  cases k with
  | zero => simp [compO] at hc
  | succ k =>
    cases x with
    | none =>
      unfold compO at hc
      cases hc
      unfold evO at he
      cases he
      exact EvO.none
    | some x =>
      unfold compO at hc
      obtain ⟨a, h1, rfl⟩ := Option.map_eq_some_iff.mp hc
      unfold evO at he
      obtain ⟨⟨d, σ1⟩, h4, h5⟩ := Option.bind_eq_some_iff.mp he
      cases d <;> try (simp at h5; done)
      simp at h5
      obtain ⟨rfl, rfl⟩ := h5
      exact EvO.some (ih.E _ _ _ _ _ _ _ _ _ _ _ _ gd h1 h4)

theorem snd_Ts (ih : Snd c C Δ n0 n) : ∀ es k nm xs env fa X A vars σ b σ', Good n0 A → compEs C k nm xs = some es → tesE Δ (n + 1) es vars σ = some (b, σ') →
    EvB c nm X env fa A (forIn xs true fun c r => if r = true then do let ok ← isTrue c env (eval c env); pure (ForInStep.yield ok) else pure (ForInStep.yield r)) vars σ b σ' := by
  intro es k nm xs env fa X A vars σ b σ' gd hc he
  cases k with
  | zero => simp [compEs] at hc
  | succ k =>
    cases xs with
    | nil =>
      unfold compEs at hc
      cases hc
      unfold tesE at he
      cases he
      exact EvB.tnil
    | cons x xs =>
      unfold compEs at hc
      obtain ⟨a, h1, h2⟩ := Option.bind_eq_some_iff.mp hc
      obtain ⟨b', h3, rfl⟩ := Option.map_eq_some_iff.mp h2
      unfold tesE at he
      obtain ⟨⟨t, σ1⟩, h4, h5⟩ := Option.bind_eq_some_iff.mp he
      refine EvB.tcons (ih.B _ _ _ _ _ _ _ _ _ _ _ _ gd h1 h4) (fun ht => ?_) fun ht => ?_
      · subst ht; exact ih.Ts _ _ _ _ _ _ _ _ _ _ _ _ gd h3 h5
      · subst ht; simp at h5; exact ⟨by simp [h5.1], h5.2.symm⟩

theorem cmpBoth {nm : Nm} {X : PMap} {env : Env} {fa : List (Option Addr)} {A : Around} {vars : Vars} {σ σ1 σ2 σ' : Sto} {a b : Expr} {op : CmpOp} {pos : Pos} {x y x' y' d : D} (gd : Good 0 A) (nb : NoneBooked c.B) (ha : EvV c nm X env fa A (eval a env) vars σ x σ1) (hb : EvV c nm X env fa A (eval b env) vars σ1 y σ2)
    (ex : res σ2 x = some x') (ey : res σ2 y = some y') (hm : ∀ t : Sem Value, markedEach [op] [b] [t] = [t])
    (e : (match (generalizing := false) op with
      | .In => (inD x' y').map fun t => (D.bool t, σ2)
      | .NotIn => (inD x' y').map fun t => (D.bool !t, σ2)
      | op => if x'.dep ≤ 50 then (cmpD op x' y').map fun t => (D.bool t, σ2) else none) = some (d, σ')) :
    ∃ r, d = .bool r ∧ σ' = σ2 ∧ EvV c nm X env fa A (eval (.Compare a [op] [b] pos) env) vars σ (.bool r) σ2 ∧ EvB c nm X env fa A (isTrue (.Compare a [op] [b] pos) env (eval (.Compare a [op] [b] pos) env)) vars σ r σ2 := by
  have main : ∀ r, (∀ F ρ s v u (Q : Value → Shared → Prop) (Ex : Value → Shared → Prop), W c nm X env fa F ρ vars σ2 s → Rd c F ρ s.heap v x' → Rd c F ρ s.heap u y' → Q (.bool r) s → wpAny (model c.prog c.w) A (compareOp op v u) Q Ex s) →
      EvV c nm X env fa A (eval (.Compare a [op] [b] pos) env) vars σ (.bool r) σ2 ∧ EvB c nm X env fa A (isTrue (.Compare a [op] [b] pos) env (eval (.Compare a [op] [b] pos) env)) vars σ r σ2 := fun r h => EvV.cmp gd nb ha hb ex ey h hm
  have gen : (if x'.dep ≤ 50 then (cmpD op x' y').map fun t => (D.bool t, σ2) else none) = some (d, σ') → ∃ r, d = .bool r ∧ σ' = σ2 ∧ EvV c nm X env fa A (eval (.Compare a [op] [b] pos) env) vars σ (.bool r) σ2 ∧ EvB c nm X env fa A (isTrue (.Compare a [op] [b] pos) env (eval (.Compare a [op] [b] pos) env)) vars σ r σ2 := by
    intro e
    split at e
    · rename_i hd
      obtain ⟨r, e1, e2⟩ := Option.map_eq_some_iff.mp e
      cases e2
      exact ⟨r, rfl, rfl, main r fun F ρ s v u Q Ex w r1 r2 q => cmpOk gd w.g nb r1 r2 hd e1 q⟩
    · cases e
  cases op
  case In =>
    obtain ⟨r, e1, e2⟩ := Option.map_eq_some_iff.mp e
    cases e2
    exact ⟨r, rfl, rfl, main r fun F ρ s v u Q Ex w r1 r2 q => (inOk gd w.g r1 r2 e1).1 q⟩
  case NotIn =>
    obtain ⟨r, e1, e2⟩ := Option.map_eq_some_iff.mp e
    cases e2
    exact ⟨!r, rfl, rfl, main (!r) fun F ρ s v u Q Ex w r1 r2 q => (inOk gd w.g r1 r2 e1).2 q⟩
  all_goals exact gen e

theorem snd_B (D : DlOk c C Δ n0) (ihs : ∀ m, m ≤ n → Snd c C Δ n0 m) : ∀ e k nm x env fa X A vars σ b σ', Good n0 A → compE C k nm x = some e → trE Δ (n + 1) e vars σ = some (b, σ') → EvB c nm X env fa A (isTrue x env (eval x env)) vars σ b σ' := by
  intro e k nm x env fa X A vars σ b σ' gd hc he
  have ih := ihs n (Nat.le_refl _)
  have hc0 := hc
  have hh : A.handled = none := gd.hh
  -- the plain road
  have plain : (∀ a, e ≠ .not a) → (∀ a b, e ≠ .both a b) → (∀ a b, e ≠ .either a b) → (∀ a b d, e ≠ .ite a b d) → ∃ y y' , evE Δ n e vars σ = some (y, σ') ∧ res σ' y = some y' ∧ truthD y' = some b := by
    intro h1 h2 h3 h4
    unfold trE at he
    split at he
    · exact absurd rfl (h1 _)
    · exact absurd rfl (h2 _ _)
    · exact absurd rfl (h3 _ _)
    · cases he
    · obtain ⟨⟨y, σ1⟩, q1, q2⟩ := Option.bind_eq_some_iff.mp he
      obtain ⟨y', q3, q4⟩ := Option.bind_eq_some_iff.mp q2
      obtain ⟨t, q5, q6⟩ := Option.map_eq_some_iff.mp q4
      cases q6
      exact ⟨y, y', q1, q3, q5⟩
  cases k with
  | zero => simp [compE] at hc
  | succ k =>
    have dflt : (∀ a, e ≠ .not a) → (∀ a b, e ≠ .both a b) → (∀ a b, e ≠ .either a b) → (∀ a b d, e ≠ .ite a b d) → isTrue x env (eval x env) = (do let v ← eval x env; standAt x.pos; holding [v] (truthy v)) → EvB c nm X env fa A (isTrue x env (eval x env)) vars σ b σ' := by
      intro h1 h2 h3 h4 hx
      obtain ⟨y, y', q1, q2, q3⟩ := plain h1 h2 h3 h4
      exact EvB.dflt (ih.E _ _ _ _ _ _ _ _ _ _ _ _ gd hc0 q1) q2 q3 hx
    unfold compE at hc
    split at hc
    · obtain ⟨_, _, rfl⟩ := Option.map_eq_some_iff.mp hc; exact dflt (fun _ h => by cases h) (fun _ _ h => by cases h) (fun _ _ h => by cases h) (fun _ _ _ h => by cases h) rfl
    · obtain ⟨_, _, rfl⟩ := Option.map_eq_some_iff.mp hc; exact dflt (fun _ h => by cases h) (fun _ _ h => by cases h) (fun _ _ h => by cases h) (fun _ _ _ h => by cases h) rfl
    · obtain ⟨a', h1, h2⟩ := Option.bind_eq_some_iff.mp hc
      obtain ⟨b', h3, rfl⟩ := Option.map_eq_some_iff.mp h2
      unfold trE at he
      dsimp only at he
      obtain ⟨⟨t, σ1⟩, h4, h5⟩ := Option.bind_eq_some_iff.mp he
      refine EvB.and (ih.B _ _ _ _ _ _ _ _ _ _ _ _ gd h1 h4) (fun ht => ?_) fun ht => ?_
      · subst ht; exact ih.B _ _ _ _ _ _ _ _ _ _ _ _ gd h3 h5
      · subst ht; simp at h5; exact ⟨by simp [h5.1], h5.2.symm⟩
    · obtain ⟨a', h1, h2⟩ := Option.bind_eq_some_iff.mp hc
      obtain ⟨b', h3, rfl⟩ := Option.map_eq_some_iff.mp h2
      unfold trE at he
      dsimp only at he
      obtain ⟨⟨t, σ1⟩, h4, h5⟩ := Option.bind_eq_some_iff.mp he
      refine EvB.or (ih.B _ _ _ _ _ _ _ _ _ _ _ _ gd h1 h4) (fun ht => ?_) fun ht => ?_
      · subst ht; exact ih.B _ _ _ _ _ _ _ _ _ _ _ _ gd h3 h5
      · subst ht; simp at h5; exact ⟨by simp [h5.1], h5.2.symm⟩
    · obtain ⟨_, _, h2⟩ := Option.bind_eq_some_iff.mp hc
      obtain ⟨_, _, rfl⟩ := Option.map_eq_some_iff.mp h2
      exact dflt (fun _ h => by cases h) (fun _ _ h => by cases h) (fun _ _ h => by cases h) (fun _ _ _ h => by cases h) rfl
    · obtain ⟨_, _, h2⟩ := Option.bind_eq_some_iff.mp hc
      obtain ⟨_, _, rfl⟩ := Option.map_eq_some_iff.mp h2
      exact dflt (fun _ h => by cases h) (fun _ _ h => by cases h) (fun _ _ h => by cases h) (fun _ _ _ h => by cases h) rfl
    · obtain ⟨a', h1, rfl⟩ := Option.map_eq_some_iff.mp hc
      unfold trE at he
      dsimp only at he
      obtain ⟨⟨t, σ1⟩, h4, h5⟩ := Option.map_eq_some_iff.mp he
      cases h5
      exact EvB.not (ih.B _ _ _ _ _ _ _ _ _ _ _ _ gd h1 h4)
    · obtain ⟨_, _, rfl⟩ := Option.map_eq_some_iff.mp hc; exact dflt (fun _ h => by cases h) (fun _ _ h => by cases h) (fun _ _ h => by cases h) (fun _ _ _ h => by cases h) rfl
    · obtain ⟨_, _, h2⟩ := Option.bind_eq_some_iff.mp hc
      obtain ⟨_, _, h3⟩ := Option.bind_eq_some_iff.mp h2
      obtain ⟨_, _, rfl⟩ := Option.map_eq_some_iff.mp h3
      unfold trE at he; cases he
    · -- comparison
      rename_i a op b' pp
      obtain ⟨ea, h1, h2⟩ := Option.bind_eq_some_iff.mp hc
      obtain ⟨eb, h3, rfl⟩ := Option.map_eq_some_iff.mp h2
      obtain ⟨y, y', q1, q2, q3⟩ := plain (fun _ h => by cases h) (fun _ _ h => by cases h) (fun _ _ h => by cases h) (fun _ _ _ h => by cases h)
      cases n with
      | zero => simp [evE] at q1
      | succ n' =>
        have ih' := ihs n' (Nat.le_succ _)
        unfold evE at q1
        dsimp only at q1
        obtain ⟨⟨u, σ1⟩, e1, q1⟩ := Option.bind_eq_some_iff.mp q1
        obtain ⟨⟨v, σ2⟩, e2, q1⟩ := Option.bind_eq_some_iff.mp q1
        obtain ⟨u', e3, q1⟩ := Option.bind_eq_some_iff.mp q1
        obtain ⟨v', e4, q1⟩ := Option.bind_eq_some_iff.mp q1
        obtain ⟨r, rfl, rfl, _, hB⟩ := cmpBoth (pos := pp) (gd.le (Nat.zero_le _)) D.nb (ih'.E _ _ _ _ _ _ _ _ _ _ _ _ gd h1 e1) (ih'.E _ _ _ _ _ _ _ _ _ _ _ _ gd h3 e2) e3 e4 (noMark h3) q1
        have hr : b = r := by simp [res] at q2; subst q2; simp [truthD] at q3; exact q3.symm
        subst hr
        exact hB
    · obtain ⟨_, _, rfl⟩ := Option.map_eq_some_iff.mp hc; exact dflt (fun _ h => by cases h) (fun _ _ h => by cases h) (fun _ _ h => by cases h) (fun _ _ _ h => by cases h) rfl
    · obtain ⟨_, _, rfl⟩ := Option.map_eq_some_iff.mp hc; exact dflt (fun _ h => by cases h) (fun _ _ h => by cases h) (fun _ _ h => by cases h) (fun _ _ _ h => by cases h) rfl
    · obtain ⟨_, _, h2⟩ := Option.bind_eq_some_iff.mp hc
      obtain ⟨_, _, h3⟩ := Option.bind_eq_some_iff.mp h2
      obtain ⟨_, _, h4⟩ := Option.bind_eq_some_iff.mp h3
      obtain ⟨_, _, rfl⟩ := Option.map_eq_some_iff.mp h4
      exact dflt (fun _ h => by cases h) (fun _ _ h => by cases h) (fun _ _ h => by cases h) (fun _ _ _ h => by cases h) rfl
    · obtain ⟨_, _, h2⟩ := Option.bind_eq_some_iff.mp hc
      obtain ⟨_, _, rfl⟩ := Option.map_eq_some_iff.mp h2
      exact dflt (fun _ h => by cases h) (fun _ _ h => by cases h) (fun _ _ h => by cases h) (fun _ _ _ h => by cases h) rfl
    · split at hc
      · split at hc
        · obtain ⟨_, _, rfl⟩ := Option.map_eq_some_iff.mp hc; exact dflt (fun _ h => by cases h) (fun _ _ h => by cases h) (fun _ _ h => by cases h) (fun _ _ _ h => by cases h) rfl
        · cases hc
      · obtain ⟨_, _, h2⟩ := Option.bind_eq_some_iff.mp hc
        obtain ⟨_, _, rfl⟩ := Option.map_eq_some_iff.mp h2
        exact dflt (fun _ h => by cases h) (fun _ _ h => by cases h) (fun _ _ h => by cases h) (fun _ _ _ h => by cases h) rfl
    · split at hc
      · cases hc
      · obtain ⟨_, _, h2⟩ := Option.bind_eq_some_iff.mp hc
        obtain ⟨_, _, rfl⟩ := Option.map_eq_some_iff.mp h2
        exact dflt (fun _ h => by cases h) (fun _ _ h => by cases h) (fun _ _ h => by cases h) (fun _ _ _ h => by cases h) rfl
    · have sp := okO_call (C := C) (k := k + 1) (nm := nm) _ hc0
      exact dflt (fun _ h => by subst h; cases sp) (fun _ _ h => by subst h; cases sp) (fun _ _ h => by subst h; cases sp) (fun _ _ _ h => by subst h; cases sp) rfl
    · have sp := okO_call (C := C) (k := k + 1) (nm := nm) _ hc0
      exact dflt (fun _ h => by subst h; cases sp) (fun _ _ h => by subst h; cases sp) (fun _ _ h => by subst h; cases sp) (fun _ _ _ h => by subst h; cases sp) rfl
    · have sp := okO_call (C := C) (k := k + 1) (nm := nm) _ hc0
      exact dflt (fun _ h => by subst h; cases sp) (fun _ _ h => by subst h; cases sp) (fun _ _ h => by subst h; cases sp) (fun _ _ _ h => by subst h; cases sp) rfl
    · have sp := okO_comp (C := C) (k := k + 1) (nm := nm) _ hc0
      exact dflt (fun _ h => by subst h; cases sp) (fun _ _ h => by subst h; cases sp) (fun _ _ h => by subst h; cases sp) (fun _ _ _ h => by subst h; cases sp) rfl
    · cases hc
end
end Ev
end
section
set_option maxRecDepth 100000
set_option autoImplicit false
set_option linter.all false
namespace Ev
open PySem PySem.W PySem.Calls PyProof.Rows PySem.SeqAt

theorem compEs_nil {C : Cc} {nm : Nm} {k : Nat} {xs : List Expr} (h : compEs C k nm xs = some []) : xs = [] := by
  cases k with
  | zero => simp [compEs] at h
  | succ k => cases xs with
    | nil => rfl
    | cons x xs =>
      unfold compEs at h
      obtain ⟨a, _, h2⟩ := Option.bind_eq_some_iff.mp h
      obtain ⟨b, _, h4⟩ := Option.map_eq_some_iff.mp h2
      cases h4
theorem compEs_cons {C : Cc} {nm : Nm} {k : Nat} {xs : List Expr} {a : E} {r : List E} (h : compEs C k nm xs = some (a :: r)) : ∃ x ys k', xs = x :: ys ∧ compE C k' nm x = some a ∧ compEs C k' nm ys = some r := by
  cases k with
  | zero => simp [compEs] at h
  | succ k => cases xs with
    | nil => simp [compEs] at h
    | cons x xs =>
      unfold compEs at h
      obtain ⟨a, h1, h2⟩ := Option.bind_eq_some_iff.mp h
      obtain ⟨b, h3, h4⟩ := Option.map_eq_some_iff.mp h2
      cases h4
      exact ⟨x, xs, k, rfl, h1, h3⟩
theorem ite_name {x y : Str} {b k : Bi} {r : Option Bi} (hy : y = biName k) (h : (if (x == y) = true then some k else r) = some b) (hr : r = some b → x = biName b) : x = biName b := by
  by_cases q : (x == y) = true
  · rw [if_pos q] at h; cases h; exact (eq_of_beq q).trans hy
  · rw [if_neg q] at h; exact hr h
theorem biOf_name {x : Str} {b : Bi} (h : biOf x = some b) : x = biName b :=
  ite_name (k := .len) rfl h fun h => ite_name (k := .max) rfl h fun h => ite_name (k := .min) rfl h fun h => ite_name (k := .abs) rfl h fun h => ite_name (k := .round) rfl h fun h => ite_name (k := .sum) rfl h fun h => ite_name (k := .sorted) rfl h fun h => ite_name (k := .list) rfl h fun h => ite_name (k := .tuple) rfl h fun h => ite_name (k := .divmod) rfl h fun h => ite_name (k := .range) rfl h fun h => ite_name (k := .enumerate) rfl h fun h => ite_name (k := .zip) rfl h fun h => by cases h

def okP (o : Option E) : Prop := ∀ e, o = some e → ∀ b es, e ≠ .bi b es
theorem okP_none : okP none := fun _ h => by cases h
theorem okP_some {e : E} (h : ∀ b es, e ≠ .bi b es) : okP (some e) := fun _ q => by cases q; exact h
theorem okP_bind {α : Type} {o : Option α} {f : α → Option E} (h : ∀ a, okP (f a)) : okP (o.bind f) := fun e q => by
  obtain ⟨a, _, q⟩ := Option.bind_eq_some_iff.mp q
  exact h a e q
theorem okP_map {α : Type} {o : Option α} {f : α → E} (h : ∀ a b es, f a ≠ .bi b es) : okP (o.map f) := fun e q => by
  obtain ⟨a, _, rfl⟩ := Option.map_eq_some_iff.mp q
  exact h a
theorem compE_bi {C : Cc} {nm : Nm} {k : Nat} {x : Expr} {b : Bi} {es : List E} (h : compE C k nm x = some (.bi b es)) :
    ∃ f p args pos k', x = .Call (.Name f p) args [] pos ∧ isGlob nm f = true ∧ compEs C k' nm args = some es ∧ f = biName b := by
  cases k with
  | zero => simp [compE] at h
  | succ k =>
    unfold compE at h
    split at h
    case h_19 =>
      rename_i e0 f p args pos
      split at h
      · rename_i hg
        obtain ⟨Es, h1, h2⟩ := Option.bind_eq_some_iff.mp h
        split at h2
        · split at h2 <;> cases h2
        · split at h2
          · cases h2
          · split at h2
            · split at h2 <;> cases h2
            · obtain ⟨b', h3, h4⟩ := Option.map_eq_some_iff.mp h2
              cases h4
              have hg' : isGlob nm f = true := by simp only [Bool.and_eq_true] at hg; exact hg.1
              exact ⟨f, p, args, pos, k, rfl, hg', h1, biOf_name h3⟩
      · cases h
    all_goals
      exfalso
      revert h
      refine fun h => ?_
      refine (?_ : okP _) _ h b es rfl
      repeat' first | exact okP_none | (refine okP_map fun _ _ _ q => ?_; cases q) | (refine okP_bind fun _ => ?_) | (refine okP_some fun _ _ q => ?_; cases q) | split

section
variable {c : Cx} {C : Cc} {Δ : Dl} {n0 n : Nat}

theorem snd_It (D : DlOk c C Δ n0) (ih : Snd c C Δ n0 n) : ∀ e k nm nm' x t T env fa X A vars σ ds σ', Good n0 A → compE C k nm x = some e → compT nm' t = some T → itOk e T = true → itE Δ (n + 1) e vars σ = some (ds, σ') → EvI c nm X env fa A t x vars σ ds σ' ∧ ds.length ≤ maxLen := by
  intro e k nm nm' x t T env fa X A vars σ ds σ' gd hc ht hit he
  have hh : A.handled = none := gd.hh
  unfold itE at he
  split at he
  · -- range
    rename_i es
    obtain ⟨f, p, args, pos, k', rfl, h1, h2, h3⟩ := compE_bi hc
    obtain ⟨⟨vs, σ1⟩, h4, h5⟩ := Option.bind_eq_some_iff.mp he
    try dsimp only at h5
    have hr : ∃ a b, rangeOf vs = some (a, b) ∧ ds = rangeD a b ∧ σ' = σ1 ∧ (b - a).toNat ≤ maxLen := by
      unfold rangeOf
      split at h5
      · split at h5
        · rename_i b hb
          cases h5
          refine ⟨0, b, by simp only [hb, if_true], rfl, rfl, ?_⟩
          simp only [Bool.and_eq_true, decide_eq_true_eq] at hb
          rw [Int.sub_zero]; exact hb.2
        · cases h5
      · split at h5
        · rename_i a b hb
          cases h5
          refine ⟨a, b, by simp only [hb, if_true], rfl, rfl, ?_⟩
          simp only [Bool.and_eq_true, decide_eq_true_eq] at hb
          exact hb.2
        · cases h5
      · cases h5
    obtain ⟨a, b, hab, rfl, rfl, hlen⟩ := hr
    exact ⟨EvI.range hh D.Z D.N h1 h3 (star_all h2) (ih.Es _ _ _ _ _ _ _ _ _ _ _ _ _ gd h2 h4) hab, by simpa [rangeD] using hlen⟩
  · -- enumerate
    rename_i a
    obtain ⟨f, p, args, pos, k', rfl, h1, h2, h3⟩ := compE_bi hc
    obtain ⟨x1, ys, k2, rfl, h4, h5⟩ := compEs_cons h2
    have := compEs_nil h5
    subst this
    obtain ⟨⟨d1, σ1⟩, h6, h7⟩ := Option.bind_eq_some_iff.mp he
    obtain ⟨⟨d2, σ2⟩, h8, h9⟩ := Option.bind_eq_some_iff.mp h7
    try dsimp only at h8 h9
    cases T with
    | var i => simp [itOk] at hit
    | tup is =>
      obtain ⟨es, nn, pp, rfl⟩ := compT_tup ht
      split at h9
      · rename_i xs
        split at h9
        · rename_i hl
          cases h9
          exact ⟨EvI.enum hh D.Z D.N h1 h3 (star_cons h4) (ih.E _ _ _ _ _ _ _ _ _ _ _ _ gd h4 h6) h8, by rw [enumD_len]; exact hl⟩
        · cases h9
      · cases h9
  · -- zip
    rename_i a b
    obtain ⟨f, p, args, pos, k', rfl, h1, h2, h3⟩ := compE_bi hc
    obtain ⟨x1, ys, k2, rfl, h4, h5⟩ := compEs_cons h2
    obtain ⟨x2, zs, k3, rfl, h6, h7⟩ := compEs_cons h5
    have := compEs_nil h7
    subst this
    obtain ⟨⟨d1, σ1⟩, q1, he⟩ := Option.bind_eq_some_iff.mp he
    obtain ⟨⟨d2, σ2⟩, q2, he⟩ := Option.bind_eq_some_iff.mp he
    obtain ⟨⟨d3, σ3⟩, q3, he⟩ := Option.bind_eq_some_iff.mp he
    obtain ⟨⟨d4, σ4⟩, q4, he⟩ := Option.bind_eq_some_iff.mp he
    try dsimp only at q2 q3 q4 he
    cases T with
    | var i => simp [itOk] at hit
    | tup is =>
      obtain ⟨es, nn, pp, rfl⟩ := compT_tup ht
      split at he
      · rename_i xs ys
        split at he
        · rename_i hl
          cases he
          exact ⟨EvI.zip hh D.Z D.N h1 h3 (star_cons h4) (star_cons h6) (ih.E _ _ _ _ _ _ _ _ _ _ _ _ gd h4 q1) q2 (ih.E _ _ _ _ _ _ _ _ _ _ _ _ gd h6 q3) q4, by rw [zipD_len]; exact Nat.le_trans (Nat.min_le_left ..) hl.1⟩
        · cases he
      · cases he
  · -- a value
    obtain ⟨⟨d1, σ1⟩, q1, he⟩ := Option.bind_eq_some_iff.mp he
    obtain ⟨⟨d2, σ2⟩, q2, he⟩ := Option.bind_eq_some_iff.mp he
    obtain ⟨ds', q3, he⟩ := Option.bind_eq_some_iff.mp he
    try dsimp only at q2 q3 he
    split at he
    · rename_i hl
      cases he
      exact ⟨EvI.of hh (ih.E _ _ _ _ _ _ _ _ _ _ _ _ gd hc q1) q2 q3, hl⟩
    · cases he
end
end Ev
end
section
set_option maxRecDepth 100000
set_option autoImplicit false
set_option linter.all false
namespace Ev
open PySem PySem.W PySem.Calls PyProof.Rows PySem.SeqAt

theorem attrsOf_loc {σ : Sto} {l : Nat} {as : List (Nat × D)} (h : σ[l]? = some (some (.inst as))) : attrsOf σ (.loc l) = some as := by simp [attrsOf, h]
theorem evE_bi {Δ : Dl} {n : Nat} {b : Bi} {es : List E} {vars : Vars} {σ : Sto} (h : ¬ ∃ a, b = .list ∧ es = [a]) : evE Δ (n + 1) (.bi b es) vars σ = (if b == .sorted && !Δ.srt then none else (evEs Δ n es vars σ).bind fun (ds, σ) => (ress σ ds).bind fun ds => (biD b ds).map fun d => (d, σ)) := by
  cases b <;> rcases es with _ | ⟨a, _ | ⟨a', r⟩⟩ <;> first | rfl | exact absurd ⟨_, rfl, rfl⟩ h
theorem evE_list {Δ : Dl} {n : Nat} {a : E} {vars : Vars} {σ : Sto} : evE Δ (n + 1) (.bi .list [a]) vars σ = (match a with
      | .bi .range es => (itE Δ n (.bi .range es) vars σ).map fun (ds, σ) => (.lst ds, σ)
      | _ => none) := rfl

section
variable {c : Cx} {C : Cc} {Δ : Dl} {n0 n : Nat}

theorem listRange_ok {nm : Nm} {X : PMap} {env : Env} {fa : List (Option Addr)} {A : Around} {vars : Vars} {σ σ1 : Sto} {f y : Str} {p pos p' pos' : Pos} {args : List Expr} {es : List E} {ds : List Ev.D} {k : Nat} (D : DlOk c C Δ n0) (ihs : ∀ m, m ≤ n + 1 → Snd c C Δ n0 m) (gd : Good n0 A)
    (hy : isGlob nm y = true) (hyb : y = biName .list) (hf : isGlob nm f = true) (hfb : f = biName .range) (hs1 : starEach [Expr.Call (.Name f p) args [] pos] env = (false, eval (.Call (.Name f p) args [] pos) env) :: starEach [] env) (hc : compEs C k nm args = some es)
    (he : itE Δ (n + 1) (.bi .range es) vars σ = some (ds, σ1)) : EvV c nm X env fa A (eval (.Call (.Name y p') [.Call (.Name f p) args [] pos] [] pos') env) vars σ (.lst ds) σ1 := by
  have ih := ihs n (Nat.le_succ _)
  unfold itE at he
  try dsimp only at he
  obtain ⟨⟨vs, σ2⟩, h4, h5⟩ := Option.bind_eq_some_iff.mp he
  try dsimp only at h5
  have hr : ∃ a b, rangeOf vs = some (a, b) ∧ ds = rangeD a b ∧ σ1 = σ2 := by
    unfold rangeOf
    split at h5
    · split at h5
      · rename_i b hb
        cases h5
        exact ⟨0, b, by simp only [hb, if_true], rfl, rfl⟩
      · cases h5
    · split at h5
      · rename_i a b hb
        cases h5
        exact ⟨a, b, by simp only [hb, if_true], rfl, rfl⟩
      · cases h5
    · cases h5
  obtain ⟨a, b, hab, rfl, rfl⟩ := hr
  exact EvV.listRange gd.hh D.Z D.N hy hyb hf hfb hs1 (star_all hc) (ih.Es _ _ _ _ _ _ _ _ _ _ _ _ _ gd hc h4) hab

theorem snd_E (D : DlOk c C Δ n0) (ihs : ∀ m, m ≤ n → Snd c C Δ n0 m) : ∀ e k nm x env fa X A vars σ d σ', Good n0 A → compE C k nm x = some e → evE Δ (n + 1) e vars σ = some (d, σ') → EvV c nm X env fa A (eval x env) vars σ d σ' := by
  intro e k nm x env fa X A vars σ d σ' gd hc he
  have ih := ihs n (Nat.le_refl _)
  have hh : A.handled = none := gd.hh
  have g0 : Good 0 A := gd.le (Nat.zero_le _)
  cases k with
  | zero => simp [compE] at hc
  | succ k =>
    unfold compE at hc
    split at hc
    case h_1 =>
      obtain ⟨d0, h1, rfl⟩ := Option.map_eq_some_iff.mp hc
      unfold evE at he
      try dsimp only at he
      split at he
      · cases he
      · rename_i hq
        cases he
        exact EvV.const h1 (fun q => D.hot (by rw [q] at hq; simpa using hq))
    case h_2 =>
      obtain ⟨i, h1, rfl⟩ := Option.map_eq_some_iff.mp hc
      unfold evE at he
      obtain ⟨d0, h2, h3⟩ := Option.map_eq_some_iff.mp he
      cases h3
      exact EvV.var h1 h2
    case h_3 =>
      obtain ⟨a', h1, h2⟩ := Option.bind_eq_some_iff.mp hc
      obtain ⟨b', h3, rfl⟩ := Option.map_eq_some_iff.mp h2
      unfold evE at he
      obtain ⟨⟨u, σ1⟩, e1, he⟩ := Option.bind_eq_some_iff.mp he
      obtain ⟨u', e2, he⟩ := Option.bind_eq_some_iff.mp he
      obtain ⟨t, e3, he⟩ := Option.bind_eq_some_iff.mp he
      refine EvV.and (ih.E _ _ _ _ _ _ _ _ _ _ _ _ gd h1 e1) e2 e3 (fun ht => ?_) fun ht => ?_
      · subst ht; exact ih.E _ _ _ _ _ _ _ _ _ _ _ _ gd h3 he
      · subst ht; simp at he; exact ⟨he.1.symm, he.2.symm⟩
    case h_4 =>
      obtain ⟨a', h1, h2⟩ := Option.bind_eq_some_iff.mp hc
      obtain ⟨b', h3, rfl⟩ := Option.map_eq_some_iff.mp h2
      unfold evE at he
      obtain ⟨⟨u, σ1⟩, e1, he⟩ := Option.bind_eq_some_iff.mp he
      obtain ⟨u', e2, he⟩ := Option.bind_eq_some_iff.mp he
      obtain ⟨t, e3, he⟩ := Option.bind_eq_some_iff.mp he
      refine EvV.or (ih.E _ _ _ _ _ _ _ _ _ _ _ _ gd h1 e1) e2 e3 (fun ht => ?_) fun ht => ?_
      · subst ht; exact ih.E _ _ _ _ _ _ _ _ _ _ _ _ gd h3 he
      · subst ht; simp at he; exact ⟨he.1.symm, he.2.symm⟩
    case h_5 =>
      obtain ⟨a', h1, h2⟩ := Option.bind_eq_some_iff.mp hc
      obtain ⟨b', h3, rfl⟩ := Option.map_eq_some_iff.mp h2
      unfold evE at he
      obtain ⟨⟨u, σ1⟩, e1, he⟩ := Option.bind_eq_some_iff.mp he
      obtain ⟨⟨v, σ2⟩, e2, he⟩ := Option.bind_eq_some_iff.mp he
      try dsimp only at he
      split at he
      · split at he
        · rename_i i hi
          cases he
          simp only [Bool.and_eq_true, decide_eq_true_eq] at hi
          exact EvV.rep (star_cons h1) (ih.E _ _ _ _ _ _ _ _ _ _ _ _ gd h1 e1) (ih.E _ _ _ _ _ _ _ _ _ _ _ _ gd h3 e2) hi.1 hi.2
        · cases he
      · cases he
    case h_6 =>
      obtain ⟨a', h1, h2⟩ := Option.bind_eq_some_iff.mp hc
      obtain ⟨b', h3, rfl⟩ := Option.map_eq_some_iff.mp h2
      unfold evE at he
      obtain ⟨⟨u, σ1⟩, e1, he⟩ := Option.bind_eq_some_iff.mp he
      obtain ⟨⟨v, σ2⟩, e2, he⟩ := Option.bind_eq_some_iff.mp he
      obtain ⟨u', e3, he⟩ := Option.bind_eq_some_iff.mp he
      obtain ⟨v', e4, he⟩ := Option.bind_eq_some_iff.mp he
      try dsimp only at he e3 e4 e2
      split at he
      · split at he
        · rename_i hl
          cases he
          exact EvV.addl (ih.E _ _ _ _ _ _ _ _ _ _ _ _ gd h1 e1) (ih.E _ _ _ _ _ _ _ _ _ _ _ _ gd h3 e2) e3 e4 hl
        · cases he
      · obtain ⟨z, e5, e6⟩ := Option.bind_eq_some_iff.mp he
        split at e6
        · cases e6
        rename_i hq
        cases e6
        refine EvV.bin (hf := fun q => D.hot (by rw [q] at hq; simpa using hq)) g0 (ih.E _ _ _ _ _ _ _ _ _ _ _ _ gd h1 e1) (ih.E _ _ _ _ _ _ _ _ _ _ _ _ gd h3 e2) e3 e4 e5
    case h_7 =>
      obtain ⟨a', h1, rfl⟩ := Option.map_eq_some_iff.mp hc
      unfold evE at he
      cases he
    case h_8 =>
      obtain ⟨a', h1, rfl⟩ := Option.map_eq_some_iff.mp hc
      unfold evE at he
      obtain ⟨⟨u, σ1⟩, e1, he⟩ := Option.bind_eq_some_iff.mp he
      try dsimp only at he
      split at he
      · cases he; exact EvV.neg (ih.E _ _ _ _ _ _ _ _ _ _ _ _ gd h1 e1)
      · cases he
    case h_9 =>
      obtain ⟨c', h1, h2⟩ := Option.bind_eq_some_iff.mp hc
      obtain ⟨a', h3, h4⟩ := Option.bind_eq_some_iff.mp h2
      obtain ⟨b', h5, rfl⟩ := Option.map_eq_some_iff.mp h4
      unfold evE at he
      obtain ⟨⟨t, σ1⟩, e1, he⟩ := Option.bind_eq_some_iff.mp he
      refine EvV.ite (ih.B _ _ _ _ _ _ _ _ _ _ _ _ gd h1 e1) (fun ht => ?_) fun ht => ?_
      · subst ht; exact ih.E _ _ _ _ _ _ _ _ _ _ _ _ gd h3 he
      · subst ht; exact ih.E _ _ _ _ _ _ _ _ _ _ _ _ gd h5 he
    case h_10 =>
      obtain ⟨a', h1, h2⟩ := Option.bind_eq_some_iff.mp hc
      obtain ⟨b', h3, rfl⟩ := Option.map_eq_some_iff.mp h2
      unfold evE at he
      obtain ⟨⟨u, σ1⟩, e1, he⟩ := Option.bind_eq_some_iff.mp he
      obtain ⟨⟨v, σ2⟩, e2, he⟩ := Option.bind_eq_some_iff.mp he
      obtain ⟨u', e3, he⟩ := Option.bind_eq_some_iff.mp he
      obtain ⟨v', e4, he⟩ := Option.bind_eq_some_iff.mp he
      obtain ⟨r, rfl, rfl, hV, _⟩ := cmpBoth g0 D.nb (ih.E _ _ _ _ _ _ _ _ _ _ _ _ gd h1 e1) (ih.E _ _ _ _ _ _ _ _ _ _ _ _ gd h3 e2) e3 e4 (noMark h3) he
      exact hV
    case h_11 =>
      obtain ⟨es, h1, rfl⟩ := Option.map_eq_some_iff.mp hc
      unfold evE at he
      obtain ⟨⟨ds, σ1⟩, e1, he⟩ := Option.bind_eq_some_iff.mp he
      try dsimp only at he
      split at he
      · rename_i hl
        cases he
        exact EvV.tup (ih.Es _ _ _ _ _ _ _ _ _ _ _ _ _ gd h1 e1) hl
      · cases he
    case h_12 =>
      obtain ⟨es, h1, rfl⟩ := Option.map_eq_some_iff.mp hc
      unfold evE at he
      obtain ⟨⟨ds, σ1⟩, e1, he⟩ := Option.bind_eq_some_iff.mp he
      try dsimp only at he
      split at he
      · rename_i hl
        split at he
        · cases he; exact EvV.lstLoc (ih.Es _ _ _ _ _ _ _ _ _ _ _ _ _ gd h1 e1) hl
        · cases he; exact EvV.lstLoc (ih.Es _ _ _ _ _ _ _ _ _ _ _ _ _ gd h1 e1) hl
        · cases he; exact EvV.lst (ih.Es _ _ _ _ _ _ _ _ _ _ _ _ _ gd h1 e1) hl
      · cases he
    case h_13 =>
      obtain ⟨a', h1, h2⟩ := Option.bind_eq_some_iff.mp hc
      obtain ⟨l', h3, h4⟩ := Option.bind_eq_some_iff.mp h2
      obtain ⟨u', h5, h6⟩ := Option.bind_eq_some_iff.mp h4
      obtain ⟨s', h7, rfl⟩ := Option.map_eq_some_iff.mp h6
      unfold evE at he
      obtain ⟨⟨u, σ1⟩, e1, he⟩ := Option.bind_eq_some_iff.mp he
      obtain ⟨⟨i1, σ2⟩, e2, he⟩ := Option.bind_eq_some_iff.mp he
      obtain ⟨⟨i2, σ3⟩, e3, he⟩ := Option.bind_eq_some_iff.mp he
      obtain ⟨⟨i3, σ4⟩, e4, he⟩ := Option.bind_eq_some_iff.mp he
      obtain ⟨u'', e5, he⟩ := Option.bind_eq_some_iff.mp he
      obtain ⟨z, e6, he⟩ := Option.map_eq_some_iff.mp he
      cases he
      exact EvV.sli (ih.E _ _ _ _ _ _ _ _ _ _ _ _ gd h1 e1) (ih.O _ _ _ _ _ _ _ _ _ _ _ _ gd h3 e2) (ih.O _ _ _ _ _ _ _ _ _ _ _ _ gd h5 e3) (ih.O _ _ _ _ _ _ _ _ _ _ _ _ gd h7 e4) e5 e6
    case h_14 =>
      obtain ⟨a', h1, h2⟩ := Option.bind_eq_some_iff.mp hc
      obtain ⟨i', h3, rfl⟩ := Option.map_eq_some_iff.mp h2
      unfold evE at he
      obtain ⟨⟨u, σ1⟩, e1, he⟩ := Option.bind_eq_some_iff.mp he
      obtain ⟨⟨v, σ2⟩, e2, he⟩ := Option.bind_eq_some_iff.mp he
      obtain ⟨u', e3, he⟩ := Option.bind_eq_some_iff.mp he
      obtain ⟨z, e4, he⟩ := Option.map_eq_some_iff.mp he
      cases he
      exact EvV.idx (ih.E _ _ _ _ _ _ _ _ _ _ _ _ gd h1 e1) (ih.E _ _ _ _ _ _ _ _ _ _ _ _ gd h3 e2) e3 e4 (subscriptedPlain h3)
    case h_15 =>
      split at hc
      · rename_i hg
        split at hc
        · rename_i hx
          obtain ⟨t, h1, rfl⟩ := Option.map_eq_some_iff.mp hc
          unfold evE at he
          simp only [isFlt, Bool.false_and, Bool.false_eq_true, if_false] at he
          cases he
          exact D.cat _ _ _ _ _ _ _ _ _ _ _ _ hg hx h1
        · cases hc
      · obtain ⟨a', h1, h2⟩ := Option.bind_eq_some_iff.mp hc
        obtain ⟨kk, h3, rfl⟩ := Option.map_eq_some_iff.mp h2
        unfold evE at he
        obtain ⟨⟨u, σ1⟩, e1, he⟩ := Option.bind_eq_some_iff.mp he
        try dsimp only at he
        split at he
        · obtain ⟨z, e2, e3⟩ := Option.map_eq_some_iff.mp he
          cases e3
          exact EvV.attr D.Z D.cls rfl (ih.E _ _ _ _ _ _ _ _ _ _ _ _ gd h1 e1) rfl h3 e2
        · split at he
          · rename_i l _ as hl
            obtain ⟨z, e2, e3⟩ := Option.map_eq_some_iff.mp he
            cases e3
            exact EvV.attr D.Z D.cls rfl (ih.E _ _ _ _ _ _ _ _ _ _ _ _ gd h1 e1) (attrsOf_loc hl) h3 e2
          · cases he
        · cases he
    case h_16 =>
      split at hc
      · cases hc
      · rename_i e0 ax yx posx hneg hpb
        obtain ⟨a', h1, h2⟩ := Option.bind_eq_some_iff.mp hc
        obtain ⟨kk, h3, rfl⟩ := Option.map_eq_some_iff.mp h2
        have hpb' : plainBase ax = true := by simpa using hpb
        unfold evE at he
        obtain ⟨⟨u, σ1⟩, e1, he⟩ := Option.bind_eq_some_iff.mp he
        try dsimp only at he
        split at he
        · obtain ⟨z, e2, e3⟩ := Option.map_eq_some_iff.mp he
          cases e3
          exact EvV.attr D.Z D.cls hpb' (ih.E _ _ _ _ _ _ _ _ _ _ _ _ gd h1 e1) rfl h3 e2
        · split at he
          · rename_i l _ as hl
            obtain ⟨z, e2, e3⟩ := Option.map_eq_some_iff.mp he
            cases e3
            exact EvV.attr D.Z D.cls hpb' (ih.E _ _ _ _ _ _ _ _ _ _ _ _ gd h1 e1) (attrsOf_loc hl) h3 e2
          · cases he
        · cases he
    case h_17 =>
      rename_i e0 o m ap args cp
      split at hc
      · cases hc
      · rename_i hcond
        simp only [Bool.or_eq_true, Bool.not_eq_true', decide_eq_false_iff_not, not_or, Bool.not_eq_false, Decidable.not_not] at hcond
        obtain ⟨⟨hpb, hln⟩, hlen⟩ := hcond
        obtain ⟨o', h1, h2⟩ := Option.bind_eq_some_iff.mp hc
        obtain ⟨args', h3, h4⟩ := Option.bind_eq_some_iff.mp h2
        split at h4
        · -- append
          rename_i hm
          have hm' := eq_of_beq hm
          subst hm'
          split at h4
          · cases h4
            obtain ⟨x1, ys, k2, rfl, h5, h6⟩ := compEs_cons h3
            have := compEs_nil h6
            subst this
            unfold evE at he
            obtain ⟨⟨u, σ1⟩, e1, he⟩ := Option.bind_eq_some_iff.mp he
            try dsimp only at he
            split at he
            · cases he
            · rename_i hil
              have hil' : isLst σ1 u = true := by simpa using hil
              obtain ⟨⟨v, σ2⟩, e2, he⟩ := Option.bind_eq_some_iff.mp he
              try dsimp only at he
              split at he
              · split at he
                · rename_i l _ xs hl
                  split at he
                  · rename_i hz
                    cases he
                    exact EvV.append hpb hln (star_cons h5) (ih.E _ _ _ _ _ _ _ _ _ _ _ _ gd h1 e1) hil' (ih.E _ _ _ _ _ _ _ _ _ _ _ _ gd h5 e2) hl hz
                  · cases he
                · cases he
              · cases he
          · cases h4
        · split at h4
          · -- pop
            rename_i hm
            have hm' := eq_of_beq hm
            subst hm'
            split at h4
            · cases h4
              have := compEs_nil h3
              subst this
              unfold evE at he
              obtain ⟨⟨u, σ1⟩, e1, he⟩ := Option.bind_eq_some_iff.mp he
              try dsimp only at he
              split at he
              · split at he
                · rename_i l _ xs hl
                  split at he
                  · rename_i hz
                    obtain ⟨y, e2, e3⟩ := Option.map_eq_some_iff.mp he
                    cases e3
                    exact EvV.pop hpb hln (ih.E _ _ _ _ _ _ _ _ _ _ _ _ gd h1 e1) hl hz e2
                  · cases he
                · cases he
              · cases he
            · cases h4
          · split at h4
            · -- join
              rename_i hm
              have hm' := eq_of_beq hm
              subst hm'
              split at h4
              · cases h4
                obtain ⟨x1, ys, k2, rfl, h5, h6⟩ := compEs_cons h3
                have := compEs_nil h6
                subst this
                unfold evE at he
                obtain ⟨⟨u, σ1⟩, e1, he⟩ := Option.bind_eq_some_iff.mp he
                obtain ⟨⟨v, σ2⟩, e2, he⟩ := Option.bind_eq_some_iff.mp he
                obtain ⟨v', e3, he⟩ := Option.bind_eq_some_iff.mp he
                try dsimp only at he
                split at he
                · obtain ⟨t, e4, he⟩ := Option.bind_eq_some_iff.mp he
                  split at he
                  · rename_i hz
                    cases he
                    exact EvV.join hpb hln (star_cons h5) (ih.E _ _ _ _ _ _ _ _ _ _ _ _ gd h1 e1) (ih.E _ _ _ _ _ _ _ _ _ _ _ _ gd h5 e2) e3 e4 hz
                  · cases he
                · cases he
              · cases h4
            · split at h4
              · -- split
                split at h4
                · cases h4
                  unfold evE at he
                  rw [D.spl] at he
                  cases he
                · cases h4
              · -- a method of the class
                obtain ⟨f, h5, rfl⟩ := Option.map_eq_some_iff.mp h4
                obtain ⟨g, q1, q2, q3, q4, q5, q6⟩ := D.me _ _ h5
                unfold evE at he
                obtain ⟨⟨u, σ1⟩, e1, he⟩ := Option.bind_eq_some_iff.mp he
                try dsimp only at he
                split at he
                · obtain ⟨⟨ds, σ2⟩, e2, he⟩ := Option.bind_eq_some_iff.mp he
                  try dsimp only at he
                  split at he
                  · rename_i hp
                    obtain ⟨z, e3, e4⟩ := Option.map_eq_some_iff.mp he
                    cases e4
                    exact EvV.callMeth D.Z gd hpb hln hlen q1 q2 q3 q4 q5 (star_all h3) (ih.E _ _ _ _ _ _ _ _ _ _ _ _ gd h1 e1) (ih.Es _ _ _ _ _ _ _ _ _ _ _ _ _ gd h3 e2) q6 hp e3
                  · cases he
                · cases he
    case h_18 =>
      split at hc
      · split at hc
        · obtain ⟨a', h1, h2⟩ := Option.bind_eq_some_iff.mp hc
          obtain ⟨i', h3, h4⟩ := Option.bind_eq_some_iff.mp h2
          obtain ⟨b', h5, rfl⟩ := Option.map_eq_some_iff.mp h4
          unfold evE at he
          rw [D.key] at he
          cases he
        · cases hc
      · split at hc
        · obtain ⟨a', h1, h2⟩ := Option.bind_eq_some_iff.mp hc
          obtain ⟨i', h3, h4⟩ := Option.bind_eq_some_iff.mp h2
          obtain ⟨b', h5, rfl⟩ := Option.map_eq_some_iff.mp h4
          unfold evE at he
          rw [D.key] at he
          cases he
        · cases hc
    case h_19 =>
      rename_i e0 f p args pos
      split at hc
      · rename_i hg
        have hg' : isGlob nm f = true := by simp only [Bool.and_eq_true] at hg; exact hg.1
        obtain ⟨es, h1, h2⟩ := Option.bind_eq_some_iff.mp hc
        split at h2
        · -- the class
          rename_i hx
          have hx' := eq_of_beq hx
          subst hx'
          split at h2
          · cases h2
            obtain ⟨x1, ys, k2, rfl, h5, h6⟩ := compEs_cons h1
            have := compEs_nil h6
            subst this
            obtain ⟨v, q1, q2, q3⟩ := D.nw
            unfold evE at he
            obtain ⟨⟨u, σ1⟩, e1, he⟩ := Option.bind_eq_some_iff.mp he
            try dsimp only at he
            split at he
            · rename_i hp
              obtain ⟨z, e3, e4⟩ := Option.map_eq_some_iff.mp he
              cases e4
              exact EvV.callNew D.Z gd hg' q1 q2 (star_cons h5) (ih.E _ _ _ _ _ _ _ _ _ _ _ _ gd h5 e1) q3 hp e3
            · cases he
          · cases h2
        · split at h2
          · -- a def that reads
            rename_i fi hfi
            cases h2
            obtain ⟨v, q1, q2, q3⟩ := D.fn _ _ hfi
            unfold evE at he
            obtain ⟨⟨ds, σ1⟩, e1, he⟩ := Option.bind_eq_some_iff.mp he
            try dsimp only at he
            split at he
            · rename_i hp
              obtain ⟨z, e3, e4⟩ := Option.map_eq_some_iff.mp he
              cases e4
              exact EvV.callP D.Z gd hg' q1 q2 (star_all h1) (ih.Es _ _ _ _ _ _ _ _ _ _ _ _ _ gd h1 e1) q3 hp e3
            · cases he
          · split at h2
            · -- a def that turns a list
              rename_i fi hfi
              obtain ⟨v, q1, q2, q3⟩ := D.mu _ _ hfi
              split at h2
              · cases h2
                obtain ⟨x1, ys, k2, rfl, h5, h6⟩ := compEs_cons h1
                unfold evE at he
                obtain ⟨⟨u, σ1⟩, e1, he⟩ := Option.bind_eq_some_iff.mp he
                try dsimp only at he
                split at he
                · obtain ⟨⟨ds, σ2⟩, e2, he⟩ := Option.bind_eq_some_iff.mp he
                  try dsimp only at he
                  split at he
                  · rename_i l _ xs hl
                    split at he
                    · rename_i hp
                      obtain ⟨⟨z, ys'⟩, e3, e4⟩ := Option.bind_eq_some_iff.mp he
                      cases e4
                      simp only [Bool.and_eq_true] at hp
                      exact EvV.callM D.Z gd hg' q1 q2 (star_all h1) (star_cons h5) (ih.E _ _ _ _ _ _ _ _ _ _ _ _ gd h5 e1) (ih.Es _ _ _ _ _ _ _ _ _ _ _ _ _ gd h6 e2) hl q3 hp.1 hp.2 e3
                    · cases he
                  · cases he
                · cases he
              · cases h2
            · -- a built-in
              obtain ⟨b, h3, rfl⟩ := Option.map_eq_some_iff.mp h2
              have hb := biOf_name h3
              by_cases hl : ∃ a, b = .list ∧ es = [a]
              · obtain ⟨a, rfl, rfl⟩ := hl
                rw [evE_list] at he
                obtain ⟨x1, ys, k2, rfl, h5, h6⟩ := compEs_cons h1
                have := compEs_nil h6
                subst this
                split at he
                · rename_i es'
                  obtain ⟨⟨ds, σ1⟩, e1, e2⟩ := Option.map_eq_some_iff.mp he
                  cases e2
                  obtain ⟨f', p', args', pos', k', rfl, q1, q2, q3⟩ := compE_bi h5
                  cases n with
                  | zero => simp [itE] at e1
                  | succ n' =>
                    exact listRange_ok D ihs gd hg' hb q1 q3 (star_cons h5) q2 e1
                · cases he
              · rw [evE_bi hl] at he
                split at he
                · cases he
                · rename_i hs
                  obtain ⟨⟨ds, σ1⟩, e1, he⟩ := Option.bind_eq_some_iff.mp he
                  obtain ⟨xs, e2, he⟩ := Option.bind_eq_some_iff.mp he
                  obtain ⟨z, e3, e4⟩ := Option.map_eq_some_iff.mp he
                  cases e4
                  refine EvV.bi hh g0 D.Z D.N (fun hb' => D.srt ?_) hg' hb (star_all h1) (ih.Es _ _ _ _ _ _ _ _ _ _ _ _ _ gd h1 e1) e2 e3
                  subst hb'
                  simpa using hs
      · cases hc
    case h_20 =>
      rename_i e0 elt t it ifs scope pos
      obtain ⟨it', h1, h2⟩ := Option.bind_eq_some_iff.mp hc
      obtain ⟨ini, h3, h4⟩ := Option.bind_eq_some_iff.mp h2
      obtain ⟨T, h5, h6⟩ := Option.bind_eq_some_iff.mp h4
      obtain ⟨ifs', h7, h8⟩ := Option.bind_eq_some_iff.mp h6
      obtain ⟨elt', h9, h10⟩ := Option.bind_eq_some_iff.mp h8
      split at h10
      · rename_i hcond
        cases h10
        simp only [Bool.and_eq_true] at hcond
        unfold evE at he
        obtain ⟨⟨ds, σ1⟩, e1, he⟩ := Option.bind_eq_some_iff.mp he
        try dsimp only at he
        split at he
        · rename_i hcap
          obtain ⟨⟨rs, σ2⟩, e2, e3⟩ := Option.map_eq_some_iff.mp he
          cases e3
          simp only [Bool.and_eq_true, decide_eq_true_eq] at hcap
          exact EvV.comp (tst := fun vs σ => tesE Δ n ifs' vs σ) (el := fun vs σ => evE Δ n elt' vs σ) hh hcond.2 h3 h5 (noFold h1) (ih.It _ _ _ _ _ _ _ _ _ _ _ _ _ _ _ gd h1 h5 hcond.1 e1).1 hcap.1 hcap.2
            (fun env' fa' X' vars σ b σ' h => ih.Ts _ _ _ _ _ _ _ _ _ _ _ _ gd h7 h) (fun env' fa' X' vars σ d σ' h => ih.E _ _ _ _ _ _ _ _ _ _ _ _ gd h9 h) e2
        · cases he
      · cases h10
    case h_21 => cases hc
end
end Ev
end
section
set_option maxRecDepth 100000
set_option autoImplicit false
set_option linter.all false
namespace Ev
open PySem PySem.W PySem.Calls PyProof.Rows PySem.SeqAt

section
variable {c : Cx} {C : Cc} {Δ : Dl} {n0 n : Nat}

theorem snd_all (D : DlOk c C Δ n0) : ∀ n, Snd c C Δ n0 n := by
  intro n
  induction n using Nat.strongRecOn with
  | _ n ih =>
    cases n with
    | zero =>
      refine ⟨?_, ?_, ?_, ?_, ?_, ?_⟩
      · intro e k nm x env fa X A vars σ d σ' _ _ h; simp [evE] at h
      · intro e k nm x env fa X A vars σ d σ' pos _ _ h; simp [evEs] at h
      · intro e k nm x env fa X A vars σ d σ' _ _ h; simp [evO] at h
      · intro e k nm x env fa X A vars σ d σ' _ _ h; simp [trE] at h
      · intro e k nm x env fa X A vars σ d σ' _ _ h; simp [tesE] at h
      · intro e k nm nm' x t T env fa X A vars σ d σ' _ _ _ _ h; simp [itE] at h
    | succ n =>
      have ihs : ∀ m, m ≤ n → Snd c C Δ n0 m := fun m hm => ih m (Nat.lt_succ_of_le hm)
      have i0 := ihs n (Nat.le_refl _)
      exact ⟨snd_E D ihs, snd_Es i0, snd_O i0, snd_B D ihs, snd_Ts i0, snd_It D i0⟩

/-- a comprehension that goes straight into a name -/
theorem snd_U (D : DlOk c C Δ n0) {e : E} {k : Nat} {nm : Nm} {elt : Expr} {gens : List Comprehension} {scope : Scope} {pos : Pos} {env : Env} {fa : List (Option Addr)} {X : PMap} {A : Around} {vars : Vars} {σ σ' : Sto} {d : Ev.D} (gd : Good n0 A)
    (hc : compE C k nm (.ListComp elt gens scope pos) = some e) (he : evE Δ n e vars σ = some (d, σ')) : EvU c nm X env fa A (.ListComp elt gens scope pos) vars σ d σ' := by
  cases k with
  | zero => simp [compE] at hc
  | succ k =>
    cases n with
    | zero => simp [evE] at he
    | succ n =>
    have ih := snd_all D n
    unfold compE at hc
    split at hc <;> try contradiction
    case h_20 hx =>
      rename_i e0 elt2 t it ifs scope2 pos2
      cases hx
      obtain ⟨it', h1, h2⟩ := Option.bind_eq_some_iff.mp hc
      obtain ⟨ini, h3, h4⟩ := Option.bind_eq_some_iff.mp h2
      obtain ⟨T, h5, h6⟩ := Option.bind_eq_some_iff.mp h4
      obtain ⟨ifs', h7, h8⟩ := Option.bind_eq_some_iff.mp h6
      obtain ⟨elt', h9, h10⟩ := Option.bind_eq_some_iff.mp h8
      split at h10
      · rename_i hcond
        cases h10
        simp only [Bool.and_eq_true] at hcond
        unfold evE at he
        obtain ⟨⟨ds, σ1⟩, e1, he⟩ := Option.bind_eq_some_iff.mp he
        try dsimp only at he
        split at he
        · rename_i hcap
          obtain ⟨⟨rs, σ2⟩, e2, e3⟩ := Option.map_eq_some_iff.mp he
          cases e3
          simp only [Bool.and_eq_true, decide_eq_true_eq] at hcap
          exact EvU.comp (tst := fun vs σ => tesE Δ n ifs' vs σ) (el := fun vs σ => evE Δ n elt' vs σ) gd.hh hcond.2 h3 h5 (noFold h1) (ih.It _ _ _ _ _ _ _ _ _ _ _ _ _ _ _ gd h1 h5 hcond.1 e1).1 hcap.1 hcap.2
            (fun env' fa' X' vars σ b σ' h => ih.Ts _ _ _ _ _ _ _ _ _ _ _ _ gd h7 h) (fun env' fa' X' vars σ d σ' h => ih.E _ _ _ _ _ _ _ _ _ _ _ _ gd h9 h) e2
        · cases he
      · cases h10

theorem swaps_cases {C : Cc} {nm : Nm} {k : Nat} {ts : List Expr} {v : Expr} {e : E} {line : Nat} {env : Env} (hc : compE C k nm v = some e) :
    swapsWithSole ts v line env = pure false ∨ (swapsWithSole ts v line env = pure true ∧ ∃ t elt gens scope pos, ts = [t] ∧ v = .ListComp elt gens scope pos) := by
  rcases ts with _ | ⟨t, _ | ⟨t2, r⟩⟩
  · exact .inl rfl
  · cases k with
    | zero => simp [compE] at hc
    | succ k =>
      cases v
      case ListComp elt gens scope pos =>
        cases t
        case Name x p =>
          obtain ⟨b, hr⟩ : ∃ b, swapsWithSole [Expr.Name x p] (.ListComp elt gens scope pos) line env = pure b := ⟨_, rfl⟩
          cases b with
          | false => exact .inl hr
          | true => exact .inr ⟨hr, _, _, _, _, _, rfl, rfl⟩
        all_goals exact .inl rfl
      all_goals first | exact .inl rfl | (simp [compE] at hc)
  · exact .inl rfl

structure SndS (c : Cx) (C : Cc) (Δ : Dl) (n0 n : Nat) : Prop where
  S : ∀ st k nm stx env fa X A vars σ fl vars' σ', Good n0 A → compS C k nm stx = some st → exS Δ n st vars σ = some (fl, vars', σ') → ExS c nm X env fa A (exec stx env) vars σ fl vars' σ'
  Ss : ∀ sts k nm stxs env fa X A vars σ fl vars' σ', Good n0 A → compSs C k nm stxs = some sts → exSs Δ n sts vars σ = some (fl, vars', σ') → ExS c nm X env fa A (execs stxs env) vars σ fl vars' σ'

theorem snd_Ss (ih : SndS c C Δ n0 n) : ∀ sts k nm stxs env fa X A vars σ fl vars' σ', Good n0 A → compSs C k nm stxs = some sts → exSs Δ (n + 1) sts vars σ = some (fl, vars', σ') → ExS c nm X env fa A (execs stxs env) vars σ fl vars' σ' := by
  intro sts k nm stxs env fa X A vars σ fl vars' σ' gd hc he
  cases k with
  | zero => simp [compSs] at hc
  | succ k =>
    cases stxs with
    | nil =>
      unfold compSs at hc
      cases hc
      unfold exSs at he
      cases he
      exact ExS.nil
    | cons s ss =>
      unfold compSs at hc
      obtain ⟨a, h1, h2⟩ := Option.bind_eq_some_iff.mp hc
      obtain ⟨b, h3, rfl⟩ := Option.map_eq_some_iff.mp h2
      unfold exSs at he
      split at he
      · rename_i vars1 σ1 e1
        exact ExS.cons (ih.S _ _ _ _ _ _ _ _ _ _ _ _ _ gd h1 e1) (ih.Ss _ _ _ _ _ _ _ _ _ _ _ _ _ gd h3 he)
      · rename_i hne
        exact ExS.stop (ih.S _ _ _ _ _ _ _ _ _ _ _ _ _ gd h1 he) (fun q => by subst q; exact hne _ _ he)

theorem snd_S (D : DlOk c C Δ n0) (ih : SndS c C Δ n0 n) : ∀ st k nm stx env fa X A vars σ fl vars' σ', Good n0 A → compS C k nm stx = some st → exS Δ (n + 1) st vars σ = some (fl, vars', σ') → ExS c nm X env fa A (exec stx env) vars σ fl vars' σ' := by
  intro st k nm stx env fa X A vars σ fl vars' σ' gd hc he
  have hh : A.handled = none := gd.hh
  have iE := snd_all D n
  cases k with
  | zero => simp [compS] at hc
  | succ k =>
    unfold compS at hc
    split at hc
    case h_1 =>
      obtain ⟨v', h1, h2⟩ := Option.bind_eq_some_iff.mp hc
      obtain ⟨o', h3, h4⟩ := Option.bind_eq_some_iff.mp h2
      obtain ⟨kk, h5, rfl⟩ := Option.map_eq_some_iff.mp h4
      unfold exS at he
      obtain ⟨⟨d, σ1⟩, e1, he⟩ := Option.bind_eq_some_iff.mp he
      obtain ⟨⟨x, σ2⟩, e2, he⟩ := Option.bind_eq_some_iff.mp he
      try dsimp only at he
      split at he
      · split at he
        · rename_i l _ as hl
          split at he
          · rename_i hq
            cases he
            exact ExS.setAttr D.Z D.cls D.cset (iE.E _ _ _ _ _ _ _ _ _ _ _ _ gd h1 e1) (iE.E _ _ _ _ _ _ _ _ _ _ _ _ gd h3 e2) h5 hl hq
          · cases he
        · cases he
      · cases he
    case h_2 =>
      split at hc
      · cases hc
      · obtain ⟨v', h1, h2⟩ := Option.bind_eq_some_iff.mp hc
        obtain ⟨o', h3, h4⟩ := Option.bind_eq_some_iff.mp h2
        obtain ⟨i', h5, rfl⟩ := Option.map_eq_some_iff.mp h4
        unfold exS at he
        obtain ⟨⟨d, σ1⟩, e1, he⟩ := Option.bind_eq_some_iff.mp he
        obtain ⟨⟨x, σ2⟩, e2, he⟩ := Option.bind_eq_some_iff.mp he
        obtain ⟨⟨y, σ3⟩, e3, he⟩ := Option.bind_eq_some_iff.mp he
        try dsimp only at he
        split at he
        · split at he
          · rename_i l i _ xs hl
            split at he
            · rename_i hq
              cases he
              exact ExS.setIdx (iE.E _ _ _ _ _ _ _ _ _ _ _ _ gd h1 e1) (iE.E _ _ _ _ _ _ _ _ _ _ _ _ gd h3 e2) (iE.E _ _ _ _ _ _ _ _ _ _ _ _ gd h5 e3) hl hq
            · cases he
          · cases he
        · cases he
    case h_3 =>
      split at hc
      · rename_i st0 ts0 v0 pos0 _ _ hok
        obtain ⟨v', h1, h2⟩ := Option.bind_eq_some_iff.mp hc
        obtain ⟨Ts, h3, rfl⟩ := Option.map_eq_some_iff.mp h2
        unfold exS at he
        obtain ⟨⟨d, σ1⟩, e1, he⟩ := Option.bind_eq_some_iff.mp he
        obtain ⟨vars1, e2, e3⟩ := Option.map_eq_some_iff.mp he
        cases e3
        intro F ρ s Q Ex w post
        rcases swaps_cases (ts := ts0) (line := pos0.line) (env := env) h1 with hs | ⟨hs, t, elt, gens, scope, pos, rfl, rfl⟩
        · exact ExS.asg hh w.f.kindF hok h3 hs (iE.E _ _ _ _ _ _ _ _ _ _ _ _ gd h1 e1) e2 F ρ s Q Ex w post
        · rw [List.mapM_cons] at h3
          obtain ⟨T, h4, h5⟩ := Option.bind_eq_some_iff.mp h3
          simp at h5
          subst h5
          exact ExS.asgU hh h4 hs (snd_U D gd h1 e1) e2 F ρ s Q Ex w post
      · cases hc
    case h_4 =>
      split at hc
      · obtain ⟨v', h1, rfl⟩ := Option.map_eq_some_iff.mp hc
        unfold exS at he
        obtain ⟨⟨d, σ1⟩, e1, he⟩ := Option.bind_eq_some_iff.mp he
        try dsimp only at he
        split at he
        · cases he
          intro F ρ s Q Ex w post
          exact ExS.expr (iE.E _ _ _ _ _ _ _ _ _ _ _ _ gd h1 e1) (by unfold interactive; rw [w.f.kindF]; rfl) rfl F ρ s Q Ex w post
        · cases he
      · cases hc
    case h_5 =>
      obtain ⟨v', h1, rfl⟩ := Option.map_eq_some_iff.mp hc
      unfold exS at he
      obtain ⟨⟨d, σ1⟩, e1, he⟩ := Option.bind_eq_some_iff.mp he
      obtain ⟨⟨d', σ2⟩, e2, e3⟩ := Option.map_eq_some_iff.mp he
      cases e3
      exact ExS.ret (iE.E _ _ _ _ _ _ _ _ _ _ _ _ gd h1 e1) e2
    case h_6 =>
      obtain ⟨c', h1, h2⟩ := Option.bind_eq_some_iff.mp hc
      obtain ⟨a', h3, h4⟩ := Option.bind_eq_some_iff.mp h2
      obtain ⟨b', h5, rfl⟩ := Option.map_eq_some_iff.mp h4
      unfold exS at he
      obtain ⟨⟨t, σ1⟩, e1, he⟩ := Option.bind_eq_some_iff.mp he
      refine ExS.ite (iE.B _ _ _ _ _ _ _ _ _ _ _ _ gd h1 e1) (fun ht => ?_) fun ht => ?_
      · subst ht; exact ih.Ss _ _ _ _ _ _ _ _ _ _ _ _ _ gd h3 he
      · subst ht; exact ih.Ss _ _ _ _ _ _ _ _ _ _ _ _ _ gd h5 he
    case h_7 =>
      obtain ⟨c', h1, h2⟩ := Option.bind_eq_some_iff.mp hc
      obtain ⟨b', h3, rfl⟩ := Option.map_eq_some_iff.mp h2
      unfold exS at he
      exact ExS.wh (fun vars σ v σ' h => iE.B _ _ _ _ _ _ _ _ _ _ _ _ gd h1 h) (fun vars σ fl vars' σ' h => ih.Ss _ _ _ _ _ _ _ _ _ _ _ _ _ gd h3 h) he
    case h_8 =>
      obtain ⟨it', h1, h2⟩ := Option.bind_eq_some_iff.mp hc
      obtain ⟨T, h3, h4⟩ := Option.bind_eq_some_iff.mp h2
      obtain ⟨b', h5, h6⟩ := Option.bind_eq_some_iff.mp h4
      split at h6
      · rename_i hit
        cases h6
        unfold exS at he
        obtain ⟨⟨ds, σ1⟩, e1, he⟩ := Option.bind_eq_some_iff.mp he
        exact ExS.forIn (g := fun vars σ => exSs Δ n b' vars σ) hh h3 (noFold h1) (iE.It _ _ _ _ _ _ _ _ _ _ _ _ _ _ _ gd h1 h3 hit e1).1 (fun X' vars σ fl vars' σ' h => ih.Ss _ _ _ _ _ _ _ _ _ _ _ _ _ gd h5 h) he
      · cases h6
    case h_9 =>
      cases hc
      unfold exS at he
      cases he
      exact ExS.brk
    case h_10 =>
      cases hc
      unfold exS at he
      cases he
      exact ExS.cont
    case h_11 => cases hc

theorem sndS_all (D : DlOk c C Δ n0) : ∀ n, SndS c C Δ n0 n
  | 0 => ⟨fun st k nm stx env fa X A vars σ fl vars' σ' _ _ h => by simp [exS] at h, fun st k nm stx env fa X A vars σ fl vars' σ' _ _ h => by simp [exSs] at h⟩
  | n + 1 => ⟨snd_S D (sndS_all D n), snd_Ss (sndS_all D n)⟩

theorem bodyOk (D : DlOk c C Δ n0) {nm : Nm} {sc : Scope} {m : Nat} {body : List Stmt} {b : List S} (hc : compSs C 200 nm body = some b) : BodyOk c n0 nm sc Δ m body b :=
  fun env fa A X vars σ fl vars' σ' _ gd he => (sndS_all D m).Ss _ _ _ _ _ _ _ _ _ _ _ _ _ gd hc he
end
end Ev
end
section
set_option maxRecDepth 100000
set_option autoImplicit false
set_option linter.all false
namespace Ev
open PySem PySem.W PySem.Calls PyProof.Rows PySem.SeqAt

/-- the defs of a text, each by its number -/
structure Tbl where
  fns : Nat → Option Fn
  muts : Nat → Option Fn
  init : Fn

/-- k levels of calls -/
def lev (T : Tbl) (hot srt : Bool) : Nat → Dl
  | 0 => { fns := fun _ _ => none, muts := fun _ _ _ => none, new := fun _ => none, hot := hot, srt := srt }
  | k + 1 => { fns := fun i ds => (match T.fns i with | some f => runP (lev T hot srt k) 200 f ds | none => none), muts := fun i xs ds => (match T.muts i with | some f => runM (lev T hot srt k) 200 f xs ds | none => none),
               new := fun d => runI (lev T hot srt k) 200 T.init d, hot := hot, srt := srt }

def fnChk (C : Cc) (K : Frag) (a : Addr) : Option Fn := match K.lookup a with
  | some ⟨_, _, .func fd, _⟩ => if codeIn K fd.code fd.qualname then fnOk C fd else none
  | _ => none
theorem fnIn_of {c : Cx} {C : Cc} {a : Addr} {fn : Fn} (h : fnChk C c.K a = some fn) : ∃ fd as body, FnIn c C a fd fn as body := by
  unfold fnChk at h
  split at h
  · rename_i oc od fd sl ho
    split at h
    · rename_i hc
      obtain ⟨as, body, q⟩ := fnOk_inv h
      exact ⟨fd, as, body, q, ⟨oc, od, sl, ho⟩, hc⟩
    · cases h
  · cases h
theorem strIdx_get : ∀ {l : List Str} {x : Str} {i : Nat}, strIdx l x = some i → l[i]? = some x
  | [], _, _, h => by simp [strIdx] at h
  | y :: r, x, i, h => by
    unfold strIdx at h
    split at h
    · rename_i q; cases h; rw [eq_of_beq q]; rfl
    · obtain ⟨j, h1, rfl⟩ := Option.map_eq_some_iff.mp h
      simpa using strIdx_get h1

/-- the class attributes are read as they were written -/
def CatOk (c : Cx) (C : Cc) : Prop := ∀ nm X env fa A vars σ x p y pos t, isGlob nm x = true → (x == C.cls) = true → C.cattrs.lookup y = some t → EvV c nm X env fa A (eval (.Attribute (.Name x p) y pos) env) vars σ (.str t) σ

structure TblOk (c : Cx) (C : Cc) (T : Tbl) : Prop where
  Z : Bas c
  N : BiFree c
  cls : ClsOk c
  cset : ClsSet c
  nb : NoneBooked c.B
  cat : CatOk c C
  fn : ∀ (f : Nat) x, C.fns[f]? = some x → ∃ a, nsIn c.K mainGlobals x = some (some (.ref a)) ∧ keepIn c.K (.ref a) = true ∧ ∀ fn, T.fns f = some fn → fnChk C c.K a = some fn
  mu : ∀ (f : Nat) x, C.muts[f]? = some x → ∃ a, nsIn c.K mainGlobals x = some (some (.ref a)) ∧ keepIn c.K (.ref a) = true ∧ ∀ fn, T.muts f = some fn → fnChk C c.K a = some fn
  me : ∀ (f : Nat) m, C.meths[f]? = some m → ∃ g, findIn c.K (.ref c.C) m = some (some (.ref g)) ∧ isFn c.K (.ref g) = true ∧ plainGet c.K c.C m = true ∧ (∀ k, k < 5 → (attrName k == m) = false) ∧ keepIn c.K (.ref g) = true ∧ ∀ fn, T.fns (methBase + f) = some fn → fnChk C c.K g = some fn
  nw : nsIn c.K mainGlobals C.cls = some (some (.ref c.C)) ∧ keepIn c.K (.ref c.C) = true ∧ ∃ f, fnChk C c.K f = some T.init ∧ makesIn c.K c.C = true ∧ findIn c.K (.ref c.C) "__init__" = some (some (.ref f)) ∧ typeIn c.K (.ref f) = some (.type "function")

section
variable {c : Cx} {C : Cc} {T : Tbl}

theorem PureC.le {n m : Nat} {v : Value} {sp : List D → Option D} (h : PureC c n v sp) (hl : n ≤ m) : PureC c m v sp :=
  fun ds d e A F X s vs Q Ex gd g r hp post => h ds d e A F X s vs Q Ex (gd.le hl) g r hp post
theorem MutC.le {n m : Nat} {v : Value} {sp : List D → List D → Option (D × List D)} (h : MutC c n v sp) (hl : n ≤ m) : MutC c m v sp :=
  fun xs ds d ys e A F X s a vs Q Ex gd g r hp hq post => h xs ds d ys e A F X s a vs Q Ex (gd.le hl) g r hp hq post
theorem NewC.le {n m : Nat} {v : Value} {sp : D → Option D} (h : NewC c n v sp) (hl : n ≤ m) : NewC c m v sp :=
  fun x d e A F X s u Q Ex gd g r hp post => h x d e A F X s u Q Ex (gd.le hl) g r hp post

theorem lev_flags {hot srt : Bool} : ∀ k, (lev T hot srt k).hot = hot ∧ (lev T hot srt k).srt = srt ∧ (lev T hot srt k).key = false ∧ (lev T hot srt k).spl = false
  | 0 => ⟨rfl, rfl, rfl, rfl⟩
  | _ + 1 => ⟨rfl, rfl, rfl, rfl⟩

theorem lev_ok {hot srt : Bool} (H : TblOk c C T) (hh : hot = true → c.pos = true) (hs : srt = true → SortOk c) : ∀ k, DlOk c C (lev T hot srt k) (2 * k)
  | 0 => {
      Z := H.Z, N := H.N, cls := H.cls, cset := H.cset, nb := H.nb, cat := H.cat, hot := hh, srt := hs, key := rfl, spl := rfl
      fn := fun x f h => by
        obtain ⟨a, h1, h2, _⟩ := H.fn f x (strIdx_get h)
        exact ⟨_, h1, h2, fun ds d e => by cases e⟩
      mu := fun x f h => by
        obtain ⟨a, h1, h2, _⟩ := H.mu f x (strIdx_get h)
        exact ⟨_, h1, h2, fun xs ds d ys e => by cases e⟩
      me := fun m f h => by
        obtain ⟨g, h1, h2, h3, h4, h5, _⟩ := H.me f m (strIdx_get h)
        exact ⟨g, h1, h2, h3, h4, h5, fun ds d e => by cases e⟩
      nw := ⟨_, H.nw.1, H.nw.2.1, fun x d e => by cases e⟩ }
  | k + 1 => by
    have ih := lev_ok (hot := hot) (srt := srt) H hh hs k
    refine { Z := H.Z, N := H.N, cls := H.cls, cset := H.cset, nb := H.nb, cat := H.cat, hot := hh, srt := hs, key := rfl, spl := rfl, fn := fun x f h => ?_, mu := fun x f h => ?_, me := fun m f h => ?_, nw := ?_ }
    · obtain ⟨a, h1, h2, h3⟩ := H.fn f x (strIdx_get h)
      refine ⟨_, h1, h2, fun ds d e => ?_⟩
      cases q : T.fns f with
      | none => simp [lev, q] at e
      | some fn =>
        obtain ⟨fd, as, body, hin⟩ := fnIn_of (h3 fn q)
        have := (pureOf (Δ := lev T hot srt k) (m := 200) H.Z hin (bodyOk ih hin.ok.comp)).le (m := 2 * (k + 1)) (by omega)
        exact this ds d (by simpa [lev, q] using e)
    · obtain ⟨a, h1, h2, h3⟩ := H.mu f x (strIdx_get h)
      refine ⟨_, h1, h2, fun xs ds d ys e => ?_⟩
      cases q : T.muts f with
      | none => simp [lev, q] at e
      | some fn =>
        obtain ⟨fd, as, body, hin⟩ := fnIn_of (h3 fn q)
        have := (mutOf (Δ := lev T hot srt k) (m := 200) H.Z hin (bodyOk ih hin.ok.comp)).le (m := 2 * (k + 1)) (by omega)
        exact this xs ds d ys (by simpa [lev, q] using e)
    · obtain ⟨g, h1, h2, h3, h4, h5, h6⟩ := H.me f m (strIdx_get h)
      refine ⟨g, h1, h2, h3, h4, h5, fun ds d e => ?_⟩
      cases q : T.fns (methBase + f) with
      | none => simp [lev, q] at e
      | some fn =>
        obtain ⟨fd, as, body, hin⟩ := fnIn_of (h6 fn q)
        have := (pureOf (Δ := lev T hot srt k) (m := 200) H.Z hin (bodyOk ih hin.ok.comp)).le (m := 2 * (k + 1)) (by omega)
        exact this ds d (by simpa [lev, q] using e)
    · obtain ⟨h1, h2, f, h3, h4, h5, h6⟩ := H.nw
      refine ⟨_, h1, h2, ?_⟩
      obtain ⟨fd, as, body, hin⟩ := fnIn_of h3
      exact newOf (Δ := lev T hot srt k) (m := 200) H.Z hin (bodyOk ih hin.ok.comp) h4 h5 h6
end
end Ev
end
section
set_option maxRecDepth 100000
set_option autoImplicit false
set_option linter.all false
namespace Ev
open PySem PySem.W PySem.Calls PyProof.Rows PySem.SeqAt

def Cx.warm (c : Cx) : Cx := { c with pos := true }

section
variable {c : Cx} {nm : Nm} {X : PMap} {fa : List (Option Addr)} {σ σ' σ1 σ2 : Sto} {env : Env} {vars vars' vars1 : Vars} {A : Around} {F F' : FM} {ρ ρ' : List (List Addr)} {s s' : Shared}

theorem G.warm (g : G c F X fa ρ σ s) (h : 0 < s.toks) : G c.warm F X fa ρ σ s where
  f := g.f
  x := g.x
  fx := g.fx
  base := g.base
  apart := g.apart
  own := g.own
  objs := g.objs
  len := g.len
  gens := g.gens
  tpos := fun _ => h
  ft := g.ft
  os := g.os
theorem FrR.warm {h : Heap} (f : FrR c nm F X ρ env fa vars h) : FrR c.warm nm F X ρ env fa vars h where
  kindF := f.kindF
  glob := f.glob
  bi := f.bi
  nd := f.nd
  len := f.len
  l0 := f.l0
  kinds := f.kinds
  ns := f.ns
  cell := f.cell
  free := f.free
theorem W.warm (w : W c nm X env fa F ρ vars σ s) (h : 0 < s.toks) : W c.warm nm X env fa F ρ vars σ s := ⟨w.g.warm h, w.f.warm⟩

/-- a store into a local name: the tokens are warm behind it -/
theorem storeL {M : Model} {E : Value → Shared → Prop} {i : Nat} {x : Str} {v : Value} {d : D} {Q : Unit → Shared → Prop} (w : W c nm X env fa F ρ vars σ s) (hx : nm[i]? = some (x, .local)) (hv : Rv c.C F ρ v d)
    (h : ∀ s', W c nm X env fa F ρ (vars.set i (some d)) σ s' → 0 < s'.toks → Q () s') : wpAny M A (storeName env x v) Q E s := by
  have f := w.f
  have g := w.g
  have hl := lookup_idx f.nd hx
  have hk' := f.kinds x _ hl
  have hi : i < vars.length := by rw [f.len]; exact (List.getElem?_eq_some_iff.mp hx).1
  obtain ⟨m, hn, hm⟩ := f.ns
  refine wpAny_storeName_local (hk'.2 (by decide)) hn (fun h' hn' hs' => ?_) (by rw [f.kindF]; rfl)
  have g' : G c F X fa ρ σ { s with heap := h', toks := s.toks + 1 } := g.turnFr f.l0 (fun b o hb e => (hs'.2 b hb).trans e) (let ⟨o, _, _, e, _⟩ := hn'; ⟨o, e⟩) (Nat.le_succ _)
  refine h _ ⟨g', { f with len := by simpa using f.len, ns := ⟨_, hn', fun j y e h1 h2 => ?_⟩, cell := fun j y h1 => ?_, free := fun j y e h1 h2 => ?_ }⟩ (Nat.succ_pos _)
  · by_cases hij : j = i
    · subst hij
      rw [hx] at h1; cases h1
      rw [List.getElem?_set_self hi] at h2; cases h2
      exact ⟨v, by simp, hv⟩
    · rw [List.getElem?_set_ne (Ne.symm hij)] at h2
      obtain ⟨u, e1, e2⟩ := hm j y e h1 h2
      refine ⟨u, ?_, e2⟩
      have : y ≠ x := fun q => hij (name_idx f.nd h1 (q ▸ hx))
      simp [this, e1]
  · obtain ⟨a, w', q1, q2, ⟨o, q3, q4⟩, q5⟩ := f.cell j y h1
    have hne : j ≠ i := fun q => by subst q; rw [hx] at h1; cases h1
    have ha : a ≠ env.locals := fun q => by
      have := g.apart (.fr (j + 1)) (.fr 0) a trivial trivial (adrs_fr.mpr q2) (adrs_fr.mpr (q ▸ f.l0))
      cases this
    refine ⟨a, w', q1, q2, ⟨o, (hs'.2 a ha).trans q3, q4⟩, fun e he => ?_⟩
    rw [List.getElem?_set_ne (Ne.symm hne)] at he
    exact q5 e he
  · have hne : j ≠ i := fun q => by subst q; rw [hx] at h1; cases h1
    rw [List.getElem?_set_ne (Ne.symm hne)] at h2
    exact f.free j y e h1 h2
end

theorem compE_notComp {C : Cc} {nm : Nm} {k : Nat} {v : Expr} {e : E} (h : compE C k nm v = some e) (he : ∀ a b t i f, e ≠ .comp a b t i f) : ∀ elt gens sc pos, v ≠ .ListComp elt gens sc pos := by
  intro elt gens sc pos q
  subst q
  cases k with
  | zero => simp [compE] at h
  | succ k =>
    unfold compE at h
    split at h <;> try contradiction
    obtain ⟨it', h1, h2⟩ := Option.bind_eq_some_iff.mp h
    obtain ⟨ini, h3, h4⟩ := Option.bind_eq_some_iff.mp h2
    obtain ⟨T, h5, h6⟩ := Option.bind_eq_some_iff.mp h4
    obtain ⟨ifs', h7, h8⟩ := Option.bind_eq_some_iff.mp h6
    obtain ⟨elt', h9, h10⟩ := Option.bind_eq_some_iff.mp h8
    split at h10
    · cases h10; exact he _ _ _ _ _ rfl
    · cases h10

def okA (o : Option S) : Prop := ∀ s, o = some s → ∀ ts e, s ≠ .asg ts e
theorem okA_none : okA none := fun _ h => by cases h
theorem okA_some {s : S} (h : ∀ ts e, s ≠ .asg ts e) : okA (some s) := fun _ q => by cases q; exact h
theorem okA_bind {α : Type} {o : Option α} {f : α → Option S} (h : ∀ a, okA (f a)) : okA (o.bind f) := fun e q => by
  obtain ⟨a, _, q⟩ := Option.bind_eq_some_iff.mp q
  exact h a e q
theorem okA_map {α : Type} {o : Option α} {f : α → S} (h : ∀ a ts e, f a ≠ .asg ts e) : okA (o.map f) := fun e q => by
  obtain ⟨a, _, rfl⟩ := Option.map_eq_some_iff.mp q
  exact h a

section
variable {c : Cx} {C : Cc} {Δ0 Δ1 : Dl} {n : Nat}

/-- the law's own def: its first statement cold, the others warm -/
theorem mainOf {f : Addr} {fd : FuncData} {fn : Fn} {as : List Arg} {body : List Stmt} {i : Nat} {e : E} {rb : List S} {ds : List Ev.D} {d : Ev.D} {vars1 vars2 : Vars} {σ1 σ2 : Sto} {m1 m2 : Nat} {A : Around} {F : FM} {X : PMap} {s : Shared} {vs : List Value} {Q : Value → Shared → Prop} {Ex : Value → Shared → Prop}
    (D0 : DlOk c C Δ0 n) (D1 : DlOk c.warm C Δ1 n) (h : FnIn c C f fd fn as body) (hb : fn.body = .asg [.var i] e :: rb) (hne : ∀ a b t i f, e ≠ .comp a b t i f) (hloc : ∃ x, fd.scope.names[i]? = some (x, .local)) (hlen : ds.length = fn.np)
    (e1 : exS Δ0 (m1 + 1) (.asg [.var i] e) (startVars fn ds) [] = some (.next, vars1, σ1)) (e2 : exSs Δ1 m2 rb vars1 σ1 = some (.ret d, vars2, σ2)) (hd : d.pure = true)
    (gd : Good (n + 1) A) (g : G c F X [] [] [] s) (rv : Rvs c.C F [] vs ds) (post : ∀ F' r s', PLe F F' → G c.warm F' X [] [] [] s' → Rv c.C F' [] r d → Q r s') : wpAny (model c.prog c.w) A (call (.ref f) vs) Q Ex s := by
  obtain ⟨oc, od, sl, ho⟩ := h.at_
  have hcomp := h.ok.comp
  rw [hb] at hcomp
  have hc0 : ∃ st rest k, body = st :: rest ∧ compS C k fd.scope.names st = some (.asg [.var i] e) ∧ compSs C k fd.scope.names rest = some rb := by
    cases body with
    | nil => simp [compSs] at hcomp
    | cons st rest =>
      unfold compSs at hcomp
      obtain ⟨a, h1, h2⟩ := Option.bind_eq_some_iff.mp hcomp
      obtain ⟨b, h3, h4⟩ := Option.map_eq_some_iff.mp h2
      cases h4
      exact ⟨st, rest, _, rfl, h1, h3⟩
  obtain ⟨st, rest, k, rfl, h1, h2⟩ := hc0
  refine wpAny_call (enterFn h.ok D0.Z g (g.K D0.Z _ _ ho) rfl (codeRec_of (g.K D0.Z) h.code) (g.nolim D0.Z) gd.room rv hlen fun env fa s1 hsc w => ?_)
  have gd' : Good n (A.deeper env) := gd.deeper
  cases k with
  | zero => simp [compS] at h1
  | succ k =>
    unfold compS at h1
    split at h1
    case h_3 =>
      rename_i st0 ts v pos _ _
      split at h1
      · obtain ⟨v', h3, h4⟩ := Option.bind_eq_some_iff.mp h1
        obtain ⟨Ts, h5, h6⟩ := Option.map_eq_some_iff.mp h4
        cases h6
        -- the target is one name
        have ht : ∃ x p, ts = [.Name x p] ∧ compTgt fd.scope.names x = some i := by
          cases ts with
          | nil => simp at h5
          | cons t ts =>
            rw [List.mapM_cons] at h5
            obtain ⟨T, q1, q2⟩ := Option.bind_eq_some_iff.mp h5
            obtain ⟨Ts, q3, q4⟩ := Option.bind_eq_some_iff.mp q2
            cases q4
            have hts : ts = [] := by
              cases ts with
              | nil => rfl
              | cons t2 ts2 =>
                rw [List.mapM_cons] at q3
                obtain ⟨T2, _, q5⟩ := Option.bind_eq_some_iff.mp q3
                obtain ⟨Ts2, _, q7⟩ := Option.bind_eq_some_iff.mp q5
                cases q7
            subst hts
            unfold compT at q1
            split at q1
            · obtain ⟨j, r1, r2⟩ := Option.map_eq_some_iff.mp q1
              cases r2
              exact ⟨_, _, rfl, r1⟩
            · obtain ⟨j, r1, r2⟩ := Option.map_eq_some_iff.mp q1
              cases r2
            · cases q1
        obtain ⟨x, p, rfl, hx⟩ := ht
        obtain ⟨kk, q1, q2⟩ := compTgt_idx hx
        have q3 := nmIdx_get q1
        obtain ⟨y, hy⟩ := hloc
        rw [hy] at q3; cases q3
        unfold exS at e1
        obtain ⟨⟨d1, σ1'⟩, r1, r2⟩ := Option.bind_eq_some_iff.mp e1
        obtain ⟨vars1', r3, r4⟩ := Option.map_eq_some_iff.mp r2
        cases r4
        have hset : vars1 = (startVars fn ds).set i (some d1) := by
          simp only [asgTs, asgT, Option.bind_eq_some_iff] at r3
          obtain ⟨u, u1, u2⟩ := r3
          cases u2
          exact (setVar_inv u1).2
        have hsw : swapsWith v (some (.Name x p)) pos.line env = pure false := by
          rcases swaps_cases (ts := [.Name x p]) (line := pos.line) (env := env) h3 with hs | ⟨_, t, elt, gens, scope, pp, _, hv⟩
          · exact hs
          · exact absurd hv (compE_notComp h3 hne _ _ _ _)
        refine wpAny_execs_cons (wpAny_Assign_Name ((snd_all D0 m1).E _ _ _ _ _ _ _ _ _ _ _ _ gd' h3 r1 F [] s1 _ _ w fun F1 ρ1 u s2 l1 p1 w1 rr => ?_) hsw)
        refine storeL w1 hy rr fun s3 w3 ht => ?_
        dsimp only
        rw [← hset] at w3
        refine (sndS_all D1 m2).Ss _ _ _ _ _ _ _ _ _ _ _ _ _ gd' h2 e2 F1 ρ1 s3 _ _ (w3.warm ht) fun F2 ρ2 fl s4 l2 p2 w4 r4 => ?_
        cases r4 with
        | ret r => exact post F2 _ s4 (l1.trans l2) w4.g.only0 (r.toPure hd)
      · cases h1
    all_goals
      exfalso
      refine (?_ : okA _) _ h1 _ _ rfl
      repeat' first | exact okA_none | (refine okA_map fun _ _ _ q => ?_; cases q) | (refine okA_bind fun _ => ?_) | (refine okA_some fun _ _ q => ?_; cases q) | split
end
end Ev
end
section
set_option maxRecDepth 100000
set_option autoImplicit false
set_option linter.all false
namespace Ev
open PySem PySem.W PySem.Calls PyProof.Rows PySem.SeqAt
def frgbtohsv : Fn := ⟨14, 3, [
  .asg [(.var 3)] (.bi .max [(.var 0), (.var 1), (.var 2)]),
  .asg [(.var 4)] (.bi .min [(.var 0), (.var 1), (.var 2)]),
  .asg [(.var 5)] (.bin .Sub (.var 3) (.var 4)),
  .asg [(.var 6)] (.var 3),
  .ite (.cmp .Eq (.var 4) (.var 3)) [.ret (.tup [(.lit (.flt 0)), (.lit (.flt 0)), (.var 6)])] [],
  .asg [(.var 7)] (.bin .Div (.var 5) (.var 3)),
  .asg [(.var 8)] (.bin .Div (.bin .Sub (.var 3) (.var 0)) (.var 5)),
  .asg [(.var 9)] (.bin .Div (.bin .Sub (.var 3) (.var 1)) (.var 5)),
  .asg [(.var 10)] (.bin .Div (.bin .Sub (.var 3) (.var 2)) (.var 5)),
  .ite (.cmp .Eq (.var 0) (.var 3)) [.asg [(.var 11)] (.bin .Sub (.var 10) (.var 9))] [.ite (.cmp .Eq (.var 1) (.var 3)) [.asg [(.var 11)] (.bin .Sub (.bin .Add (.lit (.flt 4611686018427387904)) (.var 8)) (.var 10))] [.asg [(.var 11)] (.bin .Sub (.bin .Add (.lit (.flt 4616189618054758400)) (.var 9)) (.var 8))]],
  .asg [(.var 11)] (.bin .Mod (.bin .Div (.var 11) (.lit (.flt 4618441417868443648))) (.lit (.flt 4607182418800017408))),
  .ret (.tup [(.var 11), (.var 7), (.var 6)])]⟩
def fheappush : Fn := ⟨4, 2, [
  .expr (.append (.var 0) (.var 1)),
  .expr (.mcall 2 (.var 0) [(.lit (.int 0)), (.bin .Sub (.bi .len [(.var 0)]) (.lit (.int 1)))])]⟩
def fheappop : Fn := ⟨4, 1, [
  .asg [(.var 1)] (.pop (.var 0)),
  .ite (.var 0) [.asg [(.var 2)] (.idx (.var 0) (.lit (.int 0))), .setIdx (.var 0) (.lit (.int 0)) (.var 1), .expr (.mcall 3 (.var 0) [(.lit (.int 0))]), .ret (.var 2)] [],
  .ret (.var 1)]⟩
def fsiftdown : Fn := ⟨6, 3, [
  .asg [(.var 3)] (.idx (.var 0) (.var 2)),
  .wh (.cmp .Gt (.var 2) (.var 1)) [.asg [(.var 4)] (.bin .RShift (.bin .Sub (.var 2) (.lit (.int 1))) (.lit (.int 1))), .asg [(.var 5)] (.idx (.var 0) (.var 4)), .ite (.cmp .Lt (.var 3) (.var 5)) [.setIdx (.var 0) (.var 2) (.var 5), .asg [(.var 2)] (.var 4), .cont] [], .brk],
  .setIdx (.var 0) (.var 2) (.var 3)]⟩
def fsiftup : Fn := ⟨9, 2, [
  .asg [(.var 2)] (.bi .len [(.var 0)]),
  .asg [(.var 3)] (.var 1),
  .asg [(.var 4)] (.idx (.var 0) (.var 1)),
  .asg [(.var 5)] (.bin .Add (.bin .Mult (.lit (.int 2)) (.var 1)) (.lit (.int 1))),
  .wh (.cmp .Lt (.var 5) (.var 2)) [.asg [(.var 6)] (.bin .Add (.var 5) (.lit (.int 1))), .ite (.both (.cmp .Lt (.var 6) (.var 2)) (.not (.cmp .Lt (.idx (.var 0) (.var 5)) (.idx (.var 0) (.var 6))))) [.asg [(.var 5)] (.var 6)] [], .setIdx (.var 0) (.var 1) (.idx (.var 0) (.var 5)), .asg [(.var 1)] (.var 5), .asg [(.var 5)] (.bin .Add (.bin .Mult (.lit (.int 2)) (.var 1)) (.lit (.int 1)))],
  .setIdx (.var 0) (.var 1) (.var 4),
  .expr (.mcall 2 (.var 0) [(.var 3), (.var 1)])]⟩
def flongestrunofspaces : Fn := ⟨5, 1, [
  .asg [(.tup [1, 2])] (.attr (.var 0) 3),
  .ret (.bi .max [(.bin .Sub (.bi .len [(.var 1)]) (.lit (.int 1))), (.var 2)])]⟩
def findentlevel : Fn := ⟨8, 2, [
  .asg [(.tup [2, 3])] (.attr (.var 0) 3),
  .asg [(.var 4)] (.lit (.int 0)),
  .for (.var 5) (.bi .range [(.var 1), (.bi .len [(.var 2)])]) [.asg [(.var 4)] (.bin .Add (.var 4) (.bin .Mult (.bin .FloorDiv (.var 5) (.var 1)) (.idx (.var 2) (.var 5))))],
  .ret (.bin .Add (.var 3) (.bin .Mult (.var 1) (.bin .Add (.var 4) (.attr (.var 0) 2))))]⟩
def fnotequalwitness : Fn := ⟨7, 2, [
  .asg [(.var 2)] (.bin .Add (.bi .max [(.meth 100 (.var 0) []), (.meth 100 (.var 1) [])]) (.lit (.int 1))),
  .asg [(.var 3)] (.lst []),
  .for (.var 4) (.bi .range [(.lit (.int 1)), (.bin .Add (.var 2) (.lit (.int 1)))]) [.ite (.cmp .NotEq (.meth 101 (.var 0) [(.var 4)]) (.meth 101 (.var 1) [(.var 4)])) [.expr (.append (.var 3) (.tup [(.var 4), (.meth 101 (.var 0) [(.var 4)]), (.meth 101 (.var 1) [(.var 4)])]))] []],
  .ret (.var 3)]⟩
def finit : Fn := ⟨12, 2, [
  .setAttr (.var 0) 0 (.var 1),
  .asg [(.tup [2, 3])] (.tup [(.lit (.str [32])), (.lit (.str [9]))]),
  .asg [(.var 4)] (.lst []),
  .asg [(.var 5), (.var 6), (.var 7)] (.lit (.int 0)),
  .for (.var 8) (.attr (.var 0) 0) [.ite (.cmp .Eq (.var 8) (.var 2)) [.asg [(.var 6)] (.bin .Add (.var 6) (.lit (.int 1))), .asg [(.var 5)] (.bin .Add (.var 5) (.lit (.int 1)))] [.ite (.cmp .Eq (.var 8) (.var 3)) [.asg [(.var 6)] (.bin .Add (.var 6) (.lit (.int 1))), .asg [(.var 7)] (.bin .Add (.var 7) (.lit (.int 1))), .ite (.cmp .GtE (.var 5) (.bi .len [(.var 4)])) [.asg [(.var 4)] (.bin .Add (.var 4) (.rep (.lit (.int 0)) (.bin .Add (.bin .Sub (.var 5) (.bi .len [(.var 4)])) (.lit (.int 1)))))] [], .setIdx (.var 4) (.var 5) (.bin .Add (.idx (.var 4) (.var 5)) (.lit (.int 1))), .asg [(.var 5)] (.lit (.int 0))] [.brk]]],
  .setAttr (.var 0) 1 (.var 6),
  .setAttr (.var 0) 2 (.var 7),
  .setAttr (.var 0) 3 (.tup [(.bi .tuple [(.var 4)]), (.var 5)]),
  .setAttr (.var 0) 4 (.cmp .LtE (.bi .len [(.var 4)]) (.lit (.int 1)))]⟩
end Ev
end
section
set_option maxRecDepth 100000
set_option autoImplicit false
set_option linter.all false
set_option maxHeartbeats 4000000
namespace Ev
open PySem
theorem whD_s {c : Vars → Sto → Option (Bool × Sto)} {f : Vars → Sto → Option (Flw × Vars × Sto)} {n : Nat} {vars : Vars} {σ : Sto} : whD c f (n + 1) vars σ = (match c vars σ with
    | some (true, σ) => (match f vars σ with
      | some (.next, vars, σ) => whD c f n vars σ
      | some (.cont, vars, σ) => whD c f n vars σ
      | some (.brk, vars, σ) => some (.next, vars, σ)
      | some (.ret r, vars, σ) => some (.ret r, vars, σ)
      | none => none)
    | some (false, σ) => some (.next, vars, σ)
    | none => none) := rfl
theorem res_pure {σ : Sto} {d : D} (h : d.pure = true) : res σ d = some d := by cases d <;> first | rfl | (simp [D.pure] at h)
theorem res_int {σ : Sto} {i : Int} : res σ (.int i) = some (.int i) := rfl
theorem res_bool {σ : Sto} {i : Bool} : res σ (.bool i) = some (.bool i) := rfl
theorem res_str {σ : Sto} {i : List Nat} : res σ (.str i) = some (.str i) := rfl
theorem res_lst {σ : Sto} {i : List D} : res σ (.lst i) = some (.lst i) := rfl
theorem res_tup {σ : Sto} {i : List D} : res σ (.tup i) = some (.tup i) := rfl
theorem res_at {σ : Sto} {l : Nat} : res σ (.loc l) = (match σ[l]? with
    | some (some (.lst xs)) => some (.lst xs)
    | _ => none) := rfl
theorem ltD_int {a b : Int} : ltD (.int a) (.int b) = some (decide (a < b)) := by simp [ltD]


/-- the short facts on scalars, for simp -/
theorem evs : (∀ a b : Int, binD .Add (.int a) (.int b) = some (.int (a + b))) ∧ (∀ a b : Int, binD .Sub (.int a) (.int b) = some (.int (a - b)))
    ∧ (∀ a b : Int, binD .Mult (.int a) (.int b) = if small a || small b then some (.int (a * b)) else none)
    ∧ (∀ a b : Int, binD .FloorDiv (.int a) (.int b) = if b == 0 || !small b then none else some (.int (a.fdiv b)))
    ∧ (∀ a b : Int, binD .Mod (.int a) (.int b) = if b == 0 then none else some (.int (a.fmod b)))
    ∧ (∀ a b : List Nat, binD .Add (.str a) (.str b) = if a.length + b.length ≤ maxLen then some (.str (a ++ b)) else none)
    ∧ (∀ (a : List Nat) (n : Int), binD .Mult (.str a) (.int n) = if small n && decide (a.length * n.toNat ≤ maxLen) then some (.str (List.replicate n.toNat a).flatten) else none)
    ∧ (∀ i, isFlt (.int i) = false) ∧ (∀ i, isFlt (.str i) = false) ∧ (∀ i, isFlt (.bool i) = false) ∧ (∀ i, isFlt (.lst i) = false) ∧ (∀ i, isFlt (.tup i) = false)
    ∧ (∀ i, D.dep (.int i) = 0) ∧ (∀ i, D.dep (.str i) = 0) ∧ (∀ i, D.dep (.flt i) = 0) ∧ (∀ i, D.dep (.bool i) = 0)
    ∧ (∀ a b : Int, cmpD .Lt (.int a) (.int b) = some (decide (a < b))) ∧ (∀ a b : Int, cmpD .LtE (.int a) (.int b) = some (decide (a ≤ b)))
    ∧ (∀ a b : Int, cmpD .Gt (.int a) (.int b) = some (decide (a > b))) ∧ (∀ a b : Int, cmpD .GtE (.int a) (.int b) = some (decide (a ≥ b)))
    ∧ (∀ a b : Int, cmpD .Eq (.int a) (.int b) = some (a == b)) ∧ (∀ a b : Int, cmpD .NotEq (.int a) (.int b) = some (!(a == b)))
    ∧ (∀ a b : List Nat, cmpD .Eq (.str a) (.str b) = some (a == b)) ∧ (∀ a b : List Nat, cmpD .NotEq (.str a) (.str b) = some (!(a == b)))
    ∧ (∀ b, truthD (.bool b) = some b) ∧ (∀ i, truthD (.int i) = some (!(i == 0)))
    ∧ (∀ (σ : Sto) i, res σ (.int i) = some (.int i)) ∧ (∀ (σ : Sto) i, res σ (.bool i) = some (.bool i)) ∧ (∀ (σ : Sto) i, res σ (.str i) = some (.str i)) ∧ (∀ (σ : Sto) i, res σ (.lst i) = some (.lst i)) ∧ (∀ (σ : Sto) i, res σ (.tup i) = some (.tup i)) ∧ (∀ (σ : Sto) i, res σ (.flt i) = some (.flt i)) ∧ (∀ (σ : Sto) i, res σ (.inst i) = some (.inst i)) ∧ (∀ (σ : Sto), res σ .none = some .none)
    ∧ (∀ (σ : Sto) i, frz σ (.int i) = some (.int i, σ)) ∧ (∀ (σ : Sto) i, frz σ (.bool i) = some (.bool i, σ)) ∧ (∀ (σ : Sto) i, frz σ (.str i) = some (.str i, σ)) ∧ (∀ (σ : Sto) i, frz σ (.lst i) = some (.lst i, σ)) ∧ (∀ (σ : Sto) i, frz σ (.tup i) = some (.tup i, σ)) ∧ (∀ (σ : Sto) i, frz σ (.flt i) = some (.flt i, σ)) ∧ (∀ (σ : Sto) i, frz σ (.inst i) = some (.inst i, σ)) ∧ (∀ (σ : Sto), frz σ .none = some (.none, σ)) := by
  refine ⟨?_, ?_, ?_, ?_, ?_, ?_, ?_, ?_, ?_, ?_, ?_, ?_, ?_, ?_, ?_, ?_, ?_, ?_, ?_, ?_, ?_, ?_, ?_, ?_, ?_, ?_, ?_, ?_, ?_, ?_, ?_, ?_, ?_, ?_, ?_, ?_, ?_, ?_, ?_, ?_, ?_, ?_⟩ <;> intros <;> first | rfl | simp [cmpD, eqD, ltD]

theorem exSs_cons {Δ : Dl} {n : Nat} {st : S} {ss : List S} {vars vars' : Vars} {σ σ' : Sto} (h : exS Δ n st vars σ = some (.next, vars', σ')) : exSs Δ (n + 1) (st :: ss) vars σ = exSs Δ n ss vars' σ' := by rw [exSs]; rw [h]
theorem exSs_ret {Δ : Dl} {n : Nat} {st : S} {ss : List S} {vars vars' : Vars} {σ σ' : Sto} {d : D} (h : exS Δ n st vars σ = some (.ret d, vars', σ')) : exSs Δ (n + 1) (st :: ss) vars σ = some (.ret d, vars', σ') := by rw [exSs]; rw [h]
theorem exS_if {Δ : Dl} {n : Nat} {c : E} {a b : List S} {vars : Vars} {σ σ' : Sto} {t : Bool} (h : trE Δ n c vars σ = some (t, σ')) : exS Δ (n + 1) (.ite c a b) vars σ = if t then exSs Δ n a vars σ' else exSs Δ n b vars σ' := by simp only [exS, h, Option.bind_some]
theorem exS_asg1 {Δ : Dl} {n i : Nat} {e : E} {vars vars' : Vars} {σ σ' : Sto} {d : D} (h : evE Δ n e vars σ = some (d, σ')) (hv : setVar vars i d = some vars') : exS Δ (n + 1) (.asg [.var i] e) vars σ = some (.next, vars', σ') := by simp only [exS, h, Option.bind_some, asgTs, asgT, hv, Option.map_some]
theorem exS_asgs {Δ : Dl} {n : Nat} {ts : List T} {e : E} {vars vars' : Vars} {σ σ' : Sto} {d : D} (h : evE Δ n e vars σ = some (d, σ')) (hv : asgTs ts d vars = some vars') : exS Δ (n + 1) (.asg ts e) vars σ = some (.next, vars', σ') := by simp only [exS, h, Option.bind_some, hv, Option.map_some]
theorem evE_call {Δ : Dl} {n f : Nat} {es : List E} {vars : Vars} {σ σ' : Sto} {ds : List D} {d : D} (h : evEs Δ n es vars σ = some (ds, σ')) (hp : D.pures ds = true) (hf : Δ.fns f ds = some d) : evE Δ (n + 1) (.call f es) vars σ = some (d, σ') := by simp only [evE, h, Option.bind_some, hp, hf, if_true, Option.map_some]
theorem runP_of {Δ : Dl} {n : Nat} {f : Fn} {args : List D} {d : D} {v : Vars} {σ : Sto} (hl : args.length = f.np) (hp : D.pures args = true) (h : exSs Δ n f.body (startVars f args) [] = some (.ret d, v, σ)) (hd : d.pure = true) : runP Δ n f args = some d := by
  rw [runP, if_pos (by simp [hl, hp]), h]
  simp [hd]

theorem exSs_one {Δ : Dl} {n : Nat} {st : S} {vars vars' : Vars} {σ σ' : Sto} (h : exS Δ (n + 1) st vars σ = some (.next, vars', σ')) : exSs Δ (n + 1 + 1) [st] vars σ = some (.next, vars', σ') := (exSs_cons h).trans rfl
/-- it ends with that answer -/
def Rets (Δ : Dl) (n : Nat) (ss : List S) (vars : Vars) (σ : Sto) (d : D) : Prop := ∃ v s, exSs Δ n ss vars σ = some (.ret d, v, s)
theorem Rets.step {Δ : Dl} {n : Nat} {st : S} {ss : List S} {vars vars' : Vars} {σ σ' : Sto} {d : D} (h : exS Δ n st vars σ = some (.next, vars', σ')) (k : Rets Δ n ss vars' σ' d) : Rets Δ (n + 1) (st :: ss) vars σ d := by obtain ⟨v, s, k⟩ := k; exact ⟨v, s, (exSs_cons h).trans k⟩
theorem Rets.asg {Δ : Dl} {n i : Nat} {e : E} {ss : List S} {vars vars' : Vars} {σ : Sto} {d x : D} (h : evE Δ n e vars σ = some (x, σ)) (hv : setVar vars i x = some vars') (k : Rets Δ (n + 1) ss vars' σ d) : Rets Δ (n + 1 + 1) (.asg [.var i] e :: ss) vars σ d := .step (exS_asg1 h hv) k
theorem Rets.asgs {Δ : Dl} {n : Nat} {ts : List T} {e : E} {ss : List S} {vars vars' : Vars} {σ : Sto} {d x : D} (h : evE Δ n e vars σ = some (x, σ)) (hv : asgTs ts x vars = some vars') (k : Rets Δ (n + 1) ss vars' σ d) : Rets Δ (n + 1 + 1) (.asg ts e :: ss) vars σ d := .step (exS_asgs h hv) k
theorem Rets.ret {Δ : Dl} {n : Nat} {e : E} {ss : List S} {vars : Vars} {σ σ2 : Sto} {d x : D} (h : evE Δ n e vars σ = some (x, σ)) (hf : frz σ x = some (d, σ2)) : Rets Δ (n + 1 + 1) (.ret e :: ss) vars σ d := ⟨vars, σ2, exSs_ret (by simp only [exS, h, Option.bind_some, hf, Option.map_some])⟩
theorem Rets.ifTrue {Δ : Dl} {n : Nat} {c : E} {a b ss : List S} {vars : Vars} {σ : Sto} {d : D} (h : trE Δ n c vars σ = some (true, σ)) (k : Rets Δ n a vars σ d) : Rets Δ (n + 1 + 1) (.ite c a b :: ss) vars σ d := by obtain ⟨v, s, k⟩ := k; exact ⟨v, s, exSs_ret ((exS_if h).trans k)⟩
theorem Rets.skip {Δ : Dl} {n : Nat} {c : E} {a ss : List S} {vars : Vars} {σ : Sto} {d : D} (h : trE Δ (n + 1) c vars σ = some (false, σ)) (k : Rets Δ (n + 1 + 1) ss vars σ d) : Rets Δ (n + 1 + 1 + 1) (.ite c a [] :: ss) vars σ d := .step ((exS_if h).trans rfl) k
theorem Rets.run {Δ : Dl} {n : Nat} {f : Fn} {args : List D} {d : D} (h : Rets Δ n f.body (startVars f args) [] d) (hl : args.length = f.np) (hp : D.pures args = true) (hd : d.pure = true) : runP Δ n f args = some d := by obtain ⟨v, s, h⟩ := h; exact runP_of hl hp h hd

/-- a comprehension whose element leaves the store alone -/
theorem compD_inv {f : D → Vars → Sto → Option (Option D × Vars × Sto)} (I : Vars → Prop) (h : D → Option D) {σ : Sto} : ∀ {ds : List D} {vs : Vars}, (∀ d ∈ ds, ∀ vs, I vs → ∃ vs', f d vs σ = some (h d, vs', σ) ∧ I vs') → I vs → compD f ds vs σ = some (ds.filterMap h, σ)
  | [], _, _, _ => rfl
  | d :: ds, vs, hf, i => by
    obtain ⟨vs', e, i'⟩ := hf d (List.mem_cons_self) vs i
    have ih := compD_inv I h (ds := ds) (vs := vs') (fun d hd => hf d (List.mem_cons_of_mem _ hd)) i'
    unfold compD
    rw [e]
    cases q : h d with
    | none => dsimp only; rw [ih, List.filterMap_cons_none q]
    | some r => dsimp only; rw [ih, List.filterMap_cons_some q]

theorem evE_comp {Δ : Dl} {n : Nat} {ini : List (Option Nat)} {elt it : E} {t : T} {ifs : List E} {vars : Vars} {σ σ' σ2 : Sto} {ds rs : List D} (hi : itE Δ n it vars σ = some (ds, σ')) (hc : capOk vars ini = true) (hl : ds.length ≤ maxLen)
    (h : compD (fun d vs σ => (asgT t d vs).bind fun vs => (tesE Δ n ifs vs σ).bind fun (ok, σ) => if ok then (evE Δ n elt vs σ).map fun (r, σ) => (some r, vs, σ) else some (none, vs, σ)) ds (capture vars ini) σ' = some (rs, σ2)) : evE Δ (n + 1) (.comp ini elt t it ifs) vars σ = some (.lst rs, σ2) := by
  simp only [evE, hi, Option.bind_some, hc, hl, decide_true, Bool.and_self, if_true]
  rw [h]; rfl
def initBody : List S := [.ite (.cmp .Eq (.var 8) (.var 2)) [.asg [(.var 6)] (.bin .Add (.var 6) (.lit (.int 1))), .asg [(.var 5)] (.bin .Add (.var 5) (.lit (.int 1)))] [.ite (.cmp .Eq (.var 8) (.var 3)) [.asg [(.var 6)] (.bin .Add (.var 6) (.lit (.int 1))), .asg [(.var 7)] (.bin .Add (.var 7) (.lit (.int 1))), .ite (.cmp .GtE (.var 5) (.bi .len [(.var 4)])) [.asg [(.var 4)] (.bin .Add (.var 4) (.rep (.lit (.int 0)) (.bin .Add (.bin .Sub (.var 5) (.bi .len [(.var 4)])) (.lit (.int 1)))))] [], .setIdx (.var 4) (.var 5) (.bin .Add (.idx (.var 4) (.var 5)) (.lit (.int 1))), .asg [(.var 5)] (.lit (.int 0))] [.brk]]]
/-- one run more of that length -/
def bump : List Int → Nat → List Int
  | [], 0 => [1]
  | [], b + 1 => 0 :: bump [] b
  | c :: cs, 0 => (c + 1) :: cs
  | c :: cs, b + 1 => c :: bump cs b
theorem bump_len : ∀ (cs : List Int) (b : Nat), (bump cs b).length = max cs.length (b + 1)
  | [], 0 => rfl
  | [], b + 1 => by simp [bump, bump_len [] b]
  | c :: cs, 0 => by simp [bump]
  | c :: cs, b + 1 => by simp [bump, bump_len cs b]
theorem bump_in : ∀ {cs : List Int} {b : Nat}, b < cs.length → ∃ c, cs[b]? = some c ∧ cs.set b (c + 1) = bump cs b
  | c :: cs, 0, _ => ⟨c, rfl, rfl⟩
  | c :: cs, b + 1, h => by
    obtain ⟨c', h1, h2⟩ := bump_in (cs := cs) (b := b) (by simpa using h)
    exact ⟨c', by simpa using h1, by simp [bump, h2]⟩
theorem bump_out : ∀ {cs : List Int} {b : Nat}, cs.length ≤ b → (cs ++ List.replicate (b - cs.length + 1) 0).set b 1 = bump cs b ∧ (cs ++ List.replicate (b - cs.length + 1) 0)[b]? = some 0
  | [], 0, _ => ⟨rfl, rfl⟩
  | [], b + 1, _ => by
    obtain ⟨h1, h2⟩ := bump_out (cs := []) (b := b) (by simp)
    simp [List.replicate_succ] at h1 h2 ⊢
    simp [bump, h1]
    exact h2
  | c :: cs, 0, h => by simp at h
  | c :: cs, b + 1, h => by
    obtain ⟨h1, h2⟩ := bump_out (cs := cs) (b := b) (by simpa using h)
    simp [bump, h1, h2]
abbrev iv (t : List Nat) (l : Nat) (b n nt : Int) (x8 x9 x10 x11 : Option D) : Vars := [some (.loc 0), some (.str t), some (.str [32]), some (.str [9]), some (.loc l), some (.int b), some (.int n), some (.int nt), x8, x9, x10, x11]
theorem init_sp {Δ : Dl} {t : List Nat} {l : Nat} {b n nt : Int} {x9 x10 x11 : Option D} {σ : Sto} :
    exSs Δ 194 initBody (iv t l b n nt (some (.str [32])) x9 x10 x11) σ = some (.next, iv t l (b + 1) (n + 1) nt (some (.str [32])) x9 x10 x11, σ) := by
  simp [initBody, iv, exSs, exS, evE, trE, evs, asgTs, asgT, setVar]
theorem init_x {Δ : Dl} {t : List Nat} {l : Nat} {b n nt : Int} {x9 x10 x11 : Option D} {σ : Sto} :
    exSs Δ 194 initBody (iv t l b n nt (some (.str [120])) x9 x10 x11) σ = some (.brk, iv t l b n nt (some (.str [120])) x9 x10 x11, σ) := by
  simp [initBody, iv, exSs, exS, evE, trE, evs, asgTs, asgT, setVar]
theorem init_tab {Δ : Dl} {t : List Nat} {l b : Nat} {n nt : Int} {x9 x10 x11 : Option D} {σ : Sto} {cs : List Int} (hl : σ[l]? = some (some (.lst (cs.map .int)))) (h1 : cs.length ≤ 10000) (h2 : b ≤ 10000) :
    ∃ l' σ', exSs Δ 194 initBody (iv t l b n nt (some (.str [9])) x9 x10 x11) σ = some (.next, iv t l' 0 (n + 1) (nt + 1) (some (.str [9])) x9 x10 x11, σ') ∧ σ'[l']? = some (some (.lst ((bump cs b).map .int))) ∧ (σ.length = σ'.length ∧ l' = l ∨ σ'.length = σ.length + 1 ∧ l' = σ.length) ∧ ∀ j, j < l → σ'[j]? = σ[j]? := by
  have hm : maxLen = 1048576 := rfl
  have hlt : l < σ.length := (List.getElem?_eq_some_iff.mp hl).1
  by_cases hb : b < cs.length
  · obtain ⟨c, e1, e2⟩ := bump_in hb
    refine ⟨l, σ.set l (some (.lst ((bump cs b).map .int))), ?_, by rw [List.getElem?_set_self hlt], .inl ⟨by simp, rfl⟩, fun j hj => by rw [List.getElem?_set_ne (by omega)]⟩
    have hlen2 : ¬ (cs.length ≤ b) := by omega
    have hsm : small (b : Int) = true := by simp [small]; omega
    have e3 : idxD (.lst (cs.map .int)) (.int (b : Int)) = some (.int c) := by
      simp [idxD, hsm, e1]
    have e4 : (List.map D.int cs).set b (D.int (c + 1)) = (bump cs b).map .int := by rw [← e2, List.map_set]
    have hk : cs.length ≤ maxLen := by omega
    simp [initBody, iv, exSs, exS, evE, evEs, ress, trE, evs, res_at, hl, asgTs, asgT, setVar, biD, hk, hb, hlen2, e3, hsm, e4]
  · obtain ⟨e1, e2⟩ := bump_out (cs := cs) (b := b) (by omega)
    have hsm : small (b : Int) = true := by simp [small]; omega
    have hsm2 : small ((b : Int) - (cs.length : Int) + 1) = true := by simp [small]; omega
    have hn : ((b : Int) - (cs.length : Int) + 1).toNat = b - cs.length + 1 := by omega
    have hk : cs.length ≤ maxLen := by omega
    have hb' : cs.length ≤ b := by omega
    have hq : (b : Int) - (cs.length : Int) + 1 ≤ (maxLen : Int) := by omega
    have hq2 : cs.length + (b - cs.length + 1) ≤ maxLen := by omega
    have hsl : σ.length ≠ l := by omega
    have e3 : (List.map D.int cs ++ List.replicate (b - cs.length + 1) (D.int 0)) = (cs ++ List.replicate (b - cs.length + 1) 0).map .int := by simp
    have e4 : idxD (.lst ((cs ++ List.replicate (b - cs.length + 1) 0).map .int)) (.int (b : Int)) = some (.int 0) := by
      have : ((cs ++ List.replicate (b - cs.length + 1) 0).map D.int)[b]? = some (D.int 0) := by rw [List.getElem?_map, e2]; rfl
      simp only [idxD, hsm]; simpa using this
    have e5 : ((cs ++ List.replicate (b - cs.length + 1) 0).map D.int).set b (D.int 1) = (bump cs b).map .int := by rw [← e1, List.map_set]
    have hlen : b < (cs ++ List.replicate (b - cs.length + 1) 0).length := by simp; omega
    refine ⟨σ.length, σ ++ [some (.lst ((bump cs b).map .int))], ?_, by simp, .inr ⟨by simp, rfl⟩, fun j hj => by rw [List.getElem?_append_left (by omega)]⟩
    have hlen' : b < cs.length + (b - cs.length + 1) := by omega
    simp [initBody, iv, exSs, exS, evE, evEs, ress, trE, evs, res_at, hl, asgTs, asgT, setVar, biD, hk, hb', e3, hsm, e4, hsm2, hn, hq, hq2, -List.map_append, -List.map_replicate, hlen', e5, res_lst]
end Ev
end
section
set_option maxRecDepth 100000
set_option autoImplicit false
set_option linter.all false
set_option maxHeartbeats 4000000
namespace Ev
open PySem
def runText (runs : List Nat) : List Nat := runs.flatMap fun r => List.replicate r 32 ++ [9]
def leadText (runs : List Nat) (tr : Nat) (rest : List Nat) : List Nat := runText runs ++ (List.replicate tr 32 ++ 120 :: rest)
def runSum : List Nat → Nat
  | [] => 0
  | r :: rs => r + 1 + runSum rs
def wsInst (text : List Nat) (cs : List Int) (tr n nt : Int) : D := .inst [(0, .str text), (1, .int n), (2, .int nt), (3, .tup [.tup (cs.map .int), .int tr]), (4, .bool (decide (cs.length ≤ 1)))]
theorem isStrings_app : ∀ (a b : List Nat), isStrings (a ++ b) = isStrings a ++ isStrings b
  | [], b => rfl
  | c :: a, b => by simp [isStrings, isStrings_app a b]
theorem pures_ints : ∀ (cs : List Int), D.pures (cs.map .int) = true
  | [] => rfl
  | c :: cs => by simp [D.pures, D.pure, pures_ints cs]
def initF (Δ : Dl) : D → Vars → Sto → Option (Flw × Vars × Sto) := fun d vars σ => (asgT (.var 8) d vars).bind fun vars => exSs Δ 194 initBody vars σ
theorem init_spaces {Δ : Dl} {t : List Nat} {l : Nat} {nt : Int} {x9 x10 x11 : Option D} {σ : Sto} {ds : List D} : ∀ (r : Nat) (b n : Int) (x8 : Option D), ∃ x8', forD (initF Δ) (isStrings (List.replicate r 32) ++ ds) (iv t l b n nt x8 x9 x10 x11) σ = forD (initF Δ) ds (iv t l (b + r) (n + r) nt x8' x9 x10 x11) σ
  | 0, b, n, x8 => ⟨x8, by simp [isStrings]⟩
  | r + 1, b, n, x8 => by
    obtain ⟨x8', e⟩ := init_spaces (ds := ds) r (b + 1) (n + 1) (some (.str [32]))
    refine ⟨x8', ?_⟩
    rw [List.replicate_succ]
    have e1 : initF Δ (.str [32]) (iv t l b n nt x8 x9 x10 x11) σ = some (.next, iv t l (b + 1) (n + 1) nt (some (.str [32])) x9 x10 x11, σ) := by
      rw [initF, show asgT (.var 8) (.str [32]) (iv t l b n nt x8 x9 x10 x11) = some (iv t l b n nt (some (.str [32])) x9 x10 x11) from rfl, Option.bind_some]
      exact init_sp
    simp only [isStrings, List.cons_append, forD, e1]
    rw [e]
    have h1 : b + 1 + (r : Int) = b + ((r + 1 : Nat) : Int) := by omega
    have h2 : n + 1 + (r : Int) = n + ((r + 1 : Nat) : Int) := by omega
    rw [h1, h2]
theorem init_runs {Δ : Dl} {t : List Nat} {x9 x10 x11 : Option D} {ds : List D} : ∀ (runs : List Nat) (cs : List Int) (l : Nat) (n nt : Int) (x8 : Option D) (σ : Sto), σ[l]? = some (some (.lst (cs.map .int))) → 1 ≤ l → cs.length ≤ 10000 → (∀ r ∈ runs, r ≤ 9999) →
    ∃ l' σ' x8', forD (initF Δ) (isStrings (runText runs) ++ ds) (iv t l 0 n nt x8 x9 x10 x11) σ = forD (initF Δ) ds (iv t l' 0 (n + (runSum runs : Nat)) (nt + (runs.length : Nat)) x8' x9 x10 x11) σ' ∧ σ'[l']? = some (some (.lst ((runs.foldl bump cs).map .int))) ∧ 1 ≤ l' ∧ σ'[0]? = σ[0]? ∧ (runs.foldl bump cs).length ≤ 10000
  | [], cs, l, n, nt, x8, σ, hl, h1, hc, _ => ⟨l, σ, x8, by simp [isStrings, runText, runSum], hl, h1, rfl, hc⟩
  | r :: runs, cs, l, n, nt, x8, σ, hl, h1, hc, hr => by
    have hr0 : r ≤ 9999 := hr r List.mem_cons_self
    obtain ⟨x8', e1⟩ := init_spaces (Δ := Δ) (t := t) (l := l) (nt := nt) (x9 := x9) (x10 := x10) (x11 := x11) (σ := σ) (ds := isStrings [9] ++ (isStrings (runText runs) ++ ds)) r 0 n x8
    obtain ⟨l1, σ1, e2, e3, e4, e5⟩ := init_tab (Δ := Δ) (t := t) (n := n + r) (nt := nt) (x9 := x9) (x10 := x10) (x11 := x11) hl hc (show r ≤ 10000 by omega)
    have hl1 : 1 ≤ l1 := by
      have : l < σ.length := (List.getElem?_eq_some_iff.mp hl).1
      rcases e4 with ⟨_, h⟩ | ⟨_, h⟩ <;> omega
    have hb : (bump cs r).length ≤ 10000 := by rw [bump_len]; omega
    obtain ⟨l2, σ2, x8'', f1, f2, f3, f4, f5⟩ := init_runs (Δ := Δ) (t := t) (x9 := x9) (x10 := x10) (x11 := x11) (ds := ds) runs (bump cs r) l1 (n + r + 1) (nt + 1) (some (.str [9])) σ1 e3 hl1 hb (fun q hq => hr q (List.mem_cons_of_mem _ hq))
    refine ⟨l2, σ2, x8'', ?_, f2, f3, f4.trans (e5 0 (by omega)), f5⟩
    have ht : runText (r :: runs) = List.replicate r 32 ++ ([9] ++ runText runs) := by simp [runText]
    rw [ht, isStrings_app, isStrings_app, List.append_assoc, List.append_assoc, e1]
    have e6 : initF Δ (.str [9]) (iv t l (0 + (r : Int)) (n + r) nt x8' x9 x10 x11) σ = some (.next, iv t l1 0 (n + r + 1) (nt + 1) (some (.str [9])) x9 x10 x11, σ1) := by
      rw [initF, show asgT (.var 8) (.str [9]) (iv t l (0 + (r : Int)) (n + r) nt x8' x9 x10 x11) = some (iv t l (0 + (r : Int)) (n + r) nt (some (.str [9])) x9 x10 x11) from rfl, Option.bind_some, Int.zero_add]
      exact e2
    simp only [isStrings, List.cons_append, List.nil_append, forD, e6]
    rw [f1]
    have h1 : n + (r : Int) + 1 + ((runSum runs : Nat) : Int) = n + ((runSum (r :: runs) : Nat) : Int) := by simp [runSum]; omega
    have h2 : nt + 1 + ((runs.length : Nat) : Int) = nt + (((r :: runs).length : Nat) : Int) := by simp; omega
    rw [h1, h2]
theorem itemsOf_str {t : List Nat} (h : t.all (· < 128) = true) : itemsOf (.str t) = some (isStrings t) := by simp only [itemsOf, h, if_true]
theorem init_ok {Δ : Dl} {runs : List Nat} {tr : Nat} {rest : List Nat} (hr : ∀ r ∈ runs, r ≤ 9999) (ht : (leadText runs tr rest).all (· < 128) = true) (hl : (leadText runs tr rest).length ≤ maxLen) :
    runI Δ 200 finit (.str (leadText runs tr rest)) = some (wsInst (leadText runs tr rest) (runs.foldl bump []) tr ((runSum runs + tr : Nat)) runs.length) := by
  obtain ⟨l', σ', x8', f1, f2, f3, f4, f5⟩ := init_runs (Δ := Δ) (t := leadText runs tr rest) (x9 := none) (x10 := none) (x11 := none) (ds := isStrings (List.replicate tr 32) ++ isStrings (120 :: rest)) runs [] 1 0 0 none [some (.inst [(0, .str (leadText runs tr rest))]), some (.lst [])] rfl (by omega) (by simp) hr
  obtain ⟨y8, g1⟩ := init_spaces (Δ := Δ) (t := leadText runs tr rest) (l := l') (nt := 0 + ((runs.length : Nat) : Int)) (x9 := none) (x10 := none) (x11 := none) (σ := σ') (ds := isStrings (120 :: rest)) tr 0 (0 + (runSum runs : Nat)) x8'
  have e0 : isStrings (leadText runs tr rest) = isStrings (runText runs) ++ (isStrings (List.replicate tr 32) ++ isStrings (120 :: rest)) := by
    rw [leadText, isStrings_app, isStrings_app]
  generalize hT : leadText runs tr rest = T at *
  have e6 : initF Δ (.str [120]) (iv T l' (0 + (tr : Int)) (0 + (runSum runs : Nat) + tr) (0 + (runs.length : Nat)) y8 none none none) σ' = some (.brk, iv T l' (0 + (tr : Int)) (0 + (runSum runs : Nat) + tr) (0 + (runs.length : Nat)) (some (.str [120])) none none none, σ') := by
    rw [initF, show asgT (.var 8) (.str [120]) (iv T l' (0 + (tr : Int)) (0 + (runSum runs : Nat) + tr) (0 + (runs.length : Nat)) y8 none none none) = some (iv T l' (0 + (tr : Int)) (0 + (runSum runs : Nat) + tr) (0 + (runs.length : Nat)) (some (.str [120])) none none none) from rfl, Option.bind_some]
    exact init_x
  have e7 : forD (initF Δ) (isStrings T) (iv T 1 0 0 0 none none none none) [some (.inst [(0, .str T)]), some (.lst [])] = some (.next, iv T l' tr ((runSum runs + tr : Nat)) (runs.length : Nat) (some (.str [120])) none none none, σ') := by
    rw [e0, f1, g1]
    simp only [isStrings, forD, e6]
    simp only [Int.zero_add]
    norm_cast
  have h0 : σ'[0]? = some (some (.inst [(0, .str T)])) := f4
  have hlt : 0 < σ'.length := (List.getElem?_eq_some_iff.mp h0).1
  have hne : l' ≠ 0 := by omega
  have hc : (runs.foldl bump []).length ≤ maxLen := by have : maxLen = 1048576 := rfl; omega
  have hF : ∀ d vs s, initF Δ d vs s = (asgT (.var 8) d vs).bind fun vars => exSs Δ 194 initBody vars s := fun _ _ _ => rfl
  have e8 : exS Δ 195 (.for (.var 8) (.attr (.var 0) 0) initBody) (iv T 1 0 0 0 none none none none) [some (.inst [(0, .str T)]), some (.lst [])] = some (.next, iv T l' tr ((runSum runs + tr : Nat)) (runs.length : Nat) (some (.str [120])) none none none, σ') := by
    rw [← e7]
    have hi : itE Δ 194 (.attr (.var 0) 0) (iv T 1 0 0 0 none none none none) [some (.inst [(0, .str T)]), some (.lst [])] = some (isStrings T, [some (.inst [(0, .str T)]), some (.lst [])]) := by
      simp [itE, evE, iv, evs, itemsOf_str ht, isStrings_len, hl]
    simp only [exS, hi, Option.bind_some]
    rfl
  have e9 : finit.body = .setAttr (.var 0) 0 (.var 1) :: .asg [(.tup [2, 3])] (.tup [(.lit (.str [32])), (.lit (.str [9]))]) :: .asg [(.var 4)] (.lst []) :: .asg [(.var 5), (.var 6), (.var 7)] (.lit (.int 0)) :: .for (.var 8) (.attr (.var 0) 0) initBody :: finit.body.drop 5 := rfl
  have e10 : exSs Δ 200 finit.body (startVars finit [.loc 0, .str T]) [some (.inst [])] = exSs Δ 195 (finit.body.drop 5) (iv T l' tr ((runSum runs + tr : Nat)) (runs.length : Nat) (some (.str [120])) none none none) σ' := by
    have q : exSs Δ 196 (.for (.var 8) (.attr (.var 0) 0) initBody :: finit.body.drop 5) (iv T 1 0 0 0 none none none none) [some (.inst [(0, .str T)]), some (.lst [])] = exSs Δ 195 (finit.body.drop 5) (iv T l' tr ((runSum runs + tr : Nat)) (runs.length : Nat) (some (.str [120])) none none none) σ' := by
      rw [exSs]; rw [e8]
    refine (congrArg (fun b => exSs Δ 200 b (startVars finit [.loc 0, .str T]) [some (.inst [])]) e9).trans (Eq.trans ?_ q)
    generalize finit.body.drop 5 = rb
    simp [startVars, finit, exSs, exS, evE, evEs, evs, asgTs, asgT, setVars, setVar, maxLen, iv]
  have e11 : ∃ σ2, exSs Δ 195 (finit.body.drop 5) (iv T l' tr ((runSum runs + tr : Nat)) (runs.length : Nat) (some (.str [120])) none none none) σ' = some (.next, iv T l' tr ((runSum runs + tr : Nat)) (runs.length : Nat) (some (.str [120])) none none none, σ2) ∧ σ2[0]? = some (some (.inst [(0, .str T), (1, .int ((runSum runs + tr : Nat))), (2, .int (runs.length : Nat)), (3, .tup [.tup ((runs.foldl bump []).map .int), .int tr]), (4, .bool (decide ((runs.foldl bump []).length ≤ 1)))])) := by
    refine ⟨σ'.set 0 (some (.inst [(0, .str T), (1, .int ((runSum runs + tr : Nat))), (2, .int (runs.length : Nat)), (3, .tup [.tup ((runs.foldl bump []).map .int), .int tr]), (4, .bool (decide ((runs.foldl bump []).length ≤ 1)))])), ?_, ?_⟩
    · obtain ⟨σr, rfl⟩ : ∃ σr, σ' = some (.inst [(0, .str T)]) :: σr := by
        cases σ' with
        | nil => simp at h0
        | cons x y => simp at h0; exact ⟨y, by rw [h0]⟩
      obtain ⟨m, rfl⟩ : ∃ m, l' = m + 1 := ⟨l' - 1, by omega⟩
      simp at f2
      simp [finit, exSs, exS, evE, evEs, evs, ress, iv, res_at, f2, List.lookup, biD, hc, show 2 ≤ maxLen by decide]
      omega
    · rw [List.getElem?_set_self (by simpa using hlt)]
  obtain ⟨σ2, k1, k2⟩ := e11
  have k3 : look σ2 0 = some (.inst [(0, .str T), (1, .int ((runSum runs + tr : Nat))), (2, .int (runs.length : Nat)), (3, .tup [.tup ((runs.foldl bump []).map .int), .int tr]), (4, .bool (decide ((runs.foldl bump []).length ≤ 1)))]) := by simp [look, k2]
  have hp : finit.np = 2 := rfl
  simp only [runI, hp, D.pure, e10, k1, k3, wsInst]
  simp [D.purea, D.pure, D.pures, pures_ints]
end Ev
end
section
set_option maxRecDepth 100000
set_option autoImplicit false
set_option linter.all false
set_option maxHeartbeats 4000000
namespace Ev
open PySem
/-- the ints a, a + 1, .. : m of them -/
def intsFrom (a : Int) : Nat → List Int
  | 0 => []
  | m + 1 => a :: intsFrom (a + 1) m
theorem intsFrom_len : ∀ (m : Nat) (a : Int), (intsFrom a m).length = m
  | 0, _ => rfl
  | m + 1, a => by simp [intsFrom, intsFrom_len m]
theorem mem_intsFrom : ∀ {m : Nat} {a i : Int}, i ∈ intsFrom a m ↔ a ≤ i ∧ i < a + m
  | 0, a, i => by simp [intsFrom]
  | m + 1, a, i => by simp only [intsFrom, List.mem_cons, mem_intsFrom (m := m)]; omega
theorem intsFrom_range : ∀ (m : Nat) (a : Int), (List.range m).map (fun (k : Nat) => a + (k : Int)) = intsFrom a m
  | 0, _ => rfl
  | m + 1, a => by
    rw [List.range_succ_eq_map, List.map_cons, List.map_map, intsFrom, ← intsFrom_range m (a + 1)]
    congr 1
    · simp
    · apply List.map_congr_left; intro k _; simp; omega
theorem rangeD_eq (a b : Int) : rangeD a b = (intsFrom a (b - a).toNat).map .int := by
  rw [rangeD, ← intsFrom_range, List.map_map]; rfl
theorem itE_range1 {Δ : Dl} {n : Nat} {e : E} {vars : Vars} {σ σ' : Sto} {b : Int} (h : evEs Δ n [e] vars σ = some ([.int b], σ')) (h1 : small b = true) (h2 : b.toNat ≤ maxLen) : itE Δ (n + 1) (.bi .range [e]) vars σ = some ((intsFrom 0 b.toNat).map .int, σ') := by
  simp only [itE, h, Option.bind_some, h1, h2, rangeD_eq]
  simp
theorem itE_range2 {Δ : Dl} {n : Nat} {e1 e2 : E} {vars : Vars} {σ σ' : Sto} {a b : Int} (h : evEs Δ n [e1, e2] vars σ = some ([.int a, .int b], σ')) (h0 : small a = true) (h1 : small b = true) (h2 : (b - a).toNat ≤ maxLen) : itE Δ (n + 1) (.bi .range [e1, e2]) vars σ = some ((intsFrom a (b - a).toNat).map .int, σ') := by
  simp only [itE, h, Option.bind_some, h0, h1, h2, rangeD_eq]
  simp
/-- the sum of f i * c over the items, from k on -/
def isum (f : Nat → Int) (k : Nat) : List Int → Int
  | [] => 0
  | c :: cs => f k * c + isum f (k + 1) cs
theorem isum_bump (f : Nat → Int) : ∀ (cs : List Int) (b k : Nat), isum f k (bump cs b) = isum f k cs + f (k + b)
  | [], 0, k => by simp [bump, isum]
  | [], b + 1, k => by
    have := isum_bump f [] b (k + 1)
    simp [bump, isum] at this ⊢
    rw [this]; congr 1; omega
  | c :: cs, 0, k => by simp [bump, isum, Int.mul_add]; omega
  | c :: cs, b + 1, k => by
    have := isum_bump f cs b (k + 1)
    simp only [bump, isum, this]
    rw [show k + 1 + b = k + (b + 1) by omega]; omega
def rsum (f : Nat → Int) : List Nat → Int
  | [] => 0
  | r :: rs => f r + rsum f rs
theorem isum_runs (f : Nat → Int) : ∀ (runs : List Nat) (cs : List Int), isum f 0 (runs.foldl bump cs) = isum f 0 cs + rsum f runs
  | [], cs => by simp [rsum]
  | r :: rs, cs => by rw [List.foldl_cons, isum_runs f rs, isum_bump]; simp [rsum]; omega
def longest : List Nat → Nat
  | [] => 0
  | r :: rs => max (r + 1) (longest rs)
theorem bump_longest : ∀ (runs : List Nat) (cs : List Int), (runs.foldl bump cs).length = max cs.length (longest runs)
  | [], cs => by simp [longest]
  | r :: rs, cs => by rw [List.foldl_cons, bump_longest rs, bump_len]; simp [longest, Nat.max_assoc]
theorem isum_skip (f : Nat → Int) : ∀ (j : Nat) (cs : List Int) (k : Nat), (∀ i, k ≤ i → i < k + j → f i = 0) → isum f k cs = isum f (k + j) (cs.drop j)
  | 0, cs, k, _ => rfl
  | j + 1, [], k, _ => rfl
  | j + 1, c :: cs, k, h => by
    have := isum_skip f j cs (k + 1) (fun i h1 h2 => h i (by omega) (by omega))
    rw [isum, this, h k (Nat.le_refl _) (by omega), List.drop_succ_cons, show k + 1 + j = k + (j + 1) by omega]; omega
theorem small_nat {n : Nat} (h : n < 2 ^ 62) : small (n : Int) = true := by simp [small]; omega
theorem max_ints (a b : Int) : biD .max [.int a, .int b] = some (.int (max a b)) := by
  simp only [biD, bestOf, List.all_cons, num, List.all_nil, Bool.and_self, if_true, pickBest, evs]
  by_cases h : b > a
  · simp [h]; omega
  · simp [h]; omega
theorem longest_ok {Δ : Dl} {t : List Nat} {cs : List Int} {tr n nt : Int} (hc : cs.length ≤ 10000) : runP Δ 200 flongestrunofspaces [wsInst t cs tr n nt] = some (.int (max ((cs.length : Int) - 1) tr)) := by
  have hc' : cs.length ≤ maxLen := by have : maxLen = 1048576 := rfl; omega
  have hl : biD .len [.tup (cs.map .int)] = some (.int cs.length) := by simp [biD, hc']
  simp [runP, wsInst, flongestrunofspaces, startVars, D.pures, D.pure, D.purea, pures_ints, exSs, exS, evE, evEs, evs, ress, asgTs, asgT, setVars, setVar, List.lookup, max_ints, hl]
def indBody : List S := [.asg [(.var 4)] (.bin .Add (.var 4) (.bin .Mult (.bin .FloorDiv (.var 5) (.var 1)) (.idx (.var 2) (.var 5))))]
def indF (Δ : Dl) : D → Vars → Sto → Option (Flw × Vars × Sto) := fun d vars σ => (asgT (.var 5) d vars).bind fun vars => exSs Δ 196 indBody vars σ
theorem fdiv_nat (a b : Nat) : (a : Int).fdiv (b : Int) = ((a / b : Nat) : Int) := by
  rw [Int.fdiv_eq_ediv_of_nonneg _ (by omega)]; exact (Int.natCast_ediv a b).symm
theorem fmod_nat (a b : Nat) : (a : Int).fmod (b : Int) = ((a % b : Nat) : Int) := by
  rw [Int.fmod_eq_emod_of_nonneg _ (by omega)]; exact (Int.natCast_emod a b).symm
theorem ind_loop {Δ : Dl} {w : D} {ts : Nat} {cs : List Int} {tr x6 x7 : Option D} (h1 : 1 ≤ ts) (h2 : ts ≤ 20000) (hc : cs.length ≤ 10000) {σ : Sto} : ∀ (m a : Nat) (il : Int) (x5 : Option D), a + m = cs.length → ∃ x5', forD (indF Δ) ((intsFrom a m).map .int) [some w, some (.int ts), some (.tup (cs.map .int)), tr, some (.int il), x5, x6, x7] σ = some (.next, [some w, some (.int ts), some (.tup (cs.map .int)), tr, some (.int (il + isum (fun i => ((i / ts : Nat) : Int)) a (cs.drop a))), x5', x6, x7], σ)
  | 0, a, il, x5, h => ⟨x5, by
      have : cs.drop a = [] := List.drop_eq_nil_of_le (by omega)
      simp [intsFrom, forD, this, isum]⟩
  | m + 1, a, il, x5, h => by
    obtain ⟨c, hc1⟩ : ∃ c, cs[a]? = some c := ⟨cs[a]'(by omega), List.getElem?_eq_getElem (by omega)⟩
    have hd : cs.drop a = c :: cs.drop (a + 1) := by
      rw [List.drop_eq_getElem_cons (show a < cs.length by omega)]
      congr 1
      rw [List.getElem?_eq_getElem (show a < cs.length by omega)] at hc1
      exact Option.some.inj hc1
    obtain ⟨x5', e⟩ := ind_loop (Δ := Δ) (w := w) (tr := tr) (x6 := x6) (x7 := x7) h1 h2 hc (σ := σ) m (a + 1) (il + ((a / ts : Nat) : Int) * c) (some (.int a)) (by omega)
    refine ⟨x5', ?_⟩
    have e1 : idxD (.tup (cs.map .int)) (.int (a : Int)) = some (.int c) := by
      simp [idxD, small_nat (n := a) (by omega), hc1]
    have e2 : small (((a / ts : Nat) : Int)) = true := small_nat (by have := Nat.div_le_self a ts; omega)
    have e3 : small (ts : Int) = true := small_nat (by omega)
    have e4 : ¬ ts = 0 := by omega
    have e5 : indF Δ (.int a) [some w, some (.int ts), some (.tup (cs.map .int)), tr, some (.int il), x5, x6, x7] σ = some (.next, [some w, some (.int ts), some (.tup (cs.map .int)), tr, some (.int (il + ((a / ts : Nat) : Int) * c)), some (.int a), x6, x7], σ) := by
      simp [indF, indBody, exSs, exS, evE, evs, asgTs, asgT, setVar, e1, e2, e3, e4, fdiv_nat, -Int.natCast_ediv]
    simp only [intsFrom, List.map_cons, forD, e5]
    rw [show (a : Int) + 1 = ((a + 1 : Nat) : Int) by omega, e, hd, isum]
    rw [show il + ((a / ts : Nat) : Int) * c + isum (fun i => ((i / ts : Nat) : Int)) (a + 1) (cs.drop (a + 1)) = il + (((a / ts : Nat) : Int) * c + isum (fun i => ((i / ts : Nat) : Int)) (a + 1) (cs.drop (a + 1))) by omega]
theorem indent_ok {Δ : Dl} {t : List Nat} {cs : List Int} {tr n nt : Int} {ts : Nat} (h1 : 1 ≤ ts) (h2 : ts ≤ 20000) (hc : cs.length ≤ 10000) : runP Δ 200 findentlevel [wsInst t cs tr n nt, .int ts] = some (.int (tr + ts * (isum (fun i => ((i / ts : Nat) : Int)) 0 cs + nt))) := by
  have hm : maxLen = 1048576 := rfl
  have hc' : cs.length ≤ maxLen := by omega
  have hl : biD .len [.tup (cs.map .int)] = some (.int cs.length) := by simp [biD, hc']
  have e3 : small (ts : Int) = true := small_nat (by omega)
  have e4 : small (cs.length : Int) = true := small_nat (by omega)
  have h0 : isum (fun i => ((i / ts : Nat) : Int)) 0 cs = isum (fun i => ((i / ts : Nat) : Int)) ts (cs.drop ts) := by
    have := isum_skip (fun i => ((i / ts : Nat) : Int)) ts cs 0 (fun i _ h => by have : i / ts = 0 := Nat.div_eq_of_lt (by omega); simp [this])
    simpa using this
  have hf : ∃ x5', forD (indF Δ) ((intsFrom ts ((cs.length : Int) - ts).toNat).map .int) [some (wsInst t cs tr n nt), some (.int ts), some (.tup (cs.map .int)), some (.int tr), some (.int 0), none, none, none] [] = some (.next, [some (wsInst t cs tr n nt), some (.int ts), some (.tup (cs.map .int)), some (.int tr), some (.int (isum (fun i => ((i / ts : Nat) : Int)) 0 cs)), x5', none, none], []) := by
    by_cases h : ts ≤ cs.length
    · obtain ⟨x5', e⟩ := ind_loop (Δ := Δ) (w := wsInst t cs tr n nt) (tr := some (.int tr)) (x6 := none) (x7 := none) h1 h2 hc (σ := []) ((cs.length : Int) - ts).toNat ts 0 none (by omega)
      exact ⟨x5', by rw [e, h0]; simp⟩
    · refine ⟨none, ?_⟩
      have e : ((cs.length : Int) - ts).toNat = 0 := by omega
      rw [e, h0, List.drop_eq_nil_of_le (by omega)]; rfl
  obtain ⟨x5', hf⟩ := hf
  have hi : itE Δ 196 (.bi .range [(.var 1), (.bi .len [(.var 2)])]) [some (wsInst t cs tr n nt), some (.int ts), some (.tup (cs.map .int)), some (.int tr), some (.int 0), none, none, none] [] = some ((intsFrom ts ((cs.length : Int) - ts).toNat).map .int, []) := by
    refine itE_range2 ?_ e3 e4 (by omega)
    simp [evEs, evE, evs, ress, hl]
  have hb : exS Δ 197 (.for (.var 5) (.bi .range [(.var 1), (.bi .len [(.var 2)])]) indBody) [some (wsInst t cs tr n nt), some (.int ts), some (.tup (cs.map .int)), some (.int tr), some (.int 0), none, none, none] [] = some (.next, [some (wsInst t cs tr n nt), some (.int ts), some (.tup (cs.map .int)), some (.int tr), some (.int (isum (fun i => ((i / ts : Nat) : Int)) 0 cs)), x5', none, none], []) := by
    rw [← hf]
    simp only [exS, hi, Option.bind_some]
    rfl
  have hbody : findentlevel.body = [.asg [(.tup [2, 3])] (.attr (.var 0) 3), .asg [(.var 4)] (.lit (.int 0)), .for (.var 5) (.bi .range [(.var 1), (.bi .len [(.var 2)])]) indBody, .ret (.bin .Add (.var 3) (.bin .Mult (.var 1) (.bin .Add (.var 4) (.attr (.var 0) 2))))] := rfl
  have hw : wsInst t cs tr n nt = .inst [(0, .str t), (1, .int n), (2, .int nt), (3, .tup [.tup (cs.map .int), .int tr]), (4, .bool (decide (cs.length ≤ 1)))] := rfl
  have k1 : exSs Δ 200 findentlevel.body (startVars findentlevel [wsInst t cs tr n nt, .int ts]) [] = exSs Δ 197 [.ret (.bin .Add (.var 3) (.bin .Mult (.var 1) (.bin .Add (.var 4) (.attr (.var 0) 2))))] [some (wsInst t cs tr n nt), some (.int ts), some (.tup (cs.map .int)), some (.int tr), some (.int (isum (fun i => ((i / ts : Nat) : Int)) 0 cs)), x5', none, none] [] := by
    rw [hbody]
    exact (exSs_cons rfl).trans ((exSs_cons rfl).trans (exSs_cons hb))
  have k2 : exSs Δ 197 [.ret (.bin .Add (.var 3) (.bin .Mult (.var 1) (.bin .Add (.var 4) (.attr (.var 0) 2))))] [some (wsInst t cs tr n nt), some (.int ts), some (.tup (cs.map .int)), some (.int tr), some (.int (isum (fun i => ((i / ts : Nat) : Int)) 0 cs)), x5', none, none] [] = some (.ret (.int (tr + ts * (isum (fun i => ((i / ts : Nat) : Int)) 0 cs + nt))), [some (wsInst t cs tr n nt), some (.int ts), some (.tup (cs.map .int)), some (.int tr), some (.int (isum (fun i => ((i / ts : Nat) : Int)) 0 cs)), x5', none, none], []) := by
    simp [exSs, exS, evE, evs, hw, List.lookup, e3]
  have hp : D.pures [wsInst t cs tr n nt, .int ts] = true := by simp [wsInst, D.pures, D.pure, D.purea, pures_ints]
  rw [runP, if_pos (by simp [findentlevel, hp]), k1, k2]
  rfl
end Ev
end
section
set_option maxRecDepth 100000
set_option autoImplicit false
set_option linter.all false
set_option maxHeartbeats 4000000
namespace Ev
open PySem
theorem pures_map {α : Type} (h : α → D) (hp : ∀ x, (h x).pure = true) : ∀ l : List α, D.pures (l.map h) = true
  | [] => rfl
  | x :: l => by simp [D.pures, hp x, pures_map h hp l]
def witBody : List S := [.ite (.cmp .NotEq (.meth 101 (.var 0) [(.var 4)]) (.meth 101 (.var 1) [(.var 4)])) [.expr (.append (.var 3) (.tup [(.var 4), (.meth 101 (.var 0) [(.var 4)]), (.meth 101 (.var 1) [(.var 4)])]))] []]
def witF (Δ : Dl) : D → Vars → Sto → Option (Flw × Vars × Sto) := fun d vars σ => (asgT (.var 4) d vars).bind fun vars => exSs Δ 196 witBody vars σ
def tup3 (a b c : Int) : D := .tup [.int a, .int b, .int c]
theorem meth_ok {Δ : Dl} {n f : Nat} {o : E} {es : List E} {vars : Vars} {σ σ' σ2 : Sto} {as : List (Nat × D)} {ds : List D} {d : D} (h : evE Δ n o vars σ = some (.inst as, σ')) (h2 : evEs Δ n es vars σ' = some (ds, σ2)) (hp : D.pures (.inst as :: ds) = true) (hf : Δ.fns f (.inst as :: ds) = some d) : evE Δ (n + 1) (.meth f o es) vars σ = some (d, σ2) := by
  simp only [evE, h, Option.bind_some, h2, hp, if_true, hf, Option.map_some]
theorem wit_loop {Δ : Dl} {as bs : List (Nat × D)} {f g : Int → Int} {x2 x5 x6 : Option D} (pa : D.purea as = true) (pb : D.purea bs = true) : ∀ (m : Nat) (a : Int) (xs : List D) (x4 : Option D), (∀ i, a ≤ i → i < a + m → Δ.fns 101 [.inst as, .int i] = some (.int (f i)) ∧ Δ.fns 101 [.inst bs, .int i] = some (.int (g i))) → xs.length + m ≤ maxLen →
    ∃ x4', forD (witF Δ) ((intsFrom a m).map .int) [some (.inst as), some (.inst bs), x2, some (.loc 0), x4, x5, x6] [some (.lst xs)] = some (.next, [some (.inst as), some (.inst bs), x2, some (.loc 0), x4', x5, x6], [some (.lst (xs ++ ((intsFrom a m).filter (fun i => f i != g i)).map fun i => tup3 i (f i) (g i)))])
  | 0, a, xs, x4, h, hx => ⟨x4, by simp [intsFrom, forD]⟩
  | m + 1, a, xs, x4, h, hx => by
    obtain ⟨h1, h2⟩ := h a (by omega) (by omega)
    have p1 : D.pures [.inst as, .int a] = true := by simp [D.pures, D.pure, pa]
    have p2 : D.pures [.inst bs, .int a] = true := by simp [D.pures, D.pure, pb]
    have hx2 : xs.length < maxLen := by omega
    by_cases hfg : f a = g a
    · obtain ⟨x4', e⟩ := wit_loop (x2 := x2) (x5 := x5) (x6 := x6) pa pb m (a + 1) xs (some (.int a)) (fun i q1 q2 => h i (by omega) (by omega)) (by omega)
      refine ⟨x4', ?_⟩
      have e5 : witF Δ (.int a) [some (.inst as), some (.inst bs), x2, some (.loc 0), x4, x5, x6] [some (.lst xs)] = some (.next, [some (.inst as), some (.inst bs), x2, some (.loc 0), some (.int a), x5, x6], [some (.lst xs)]) := by
        simp [witF, witBody, exSs, exS, evE, evEs, trE, evs, asgTs, asgT, setVar, p1, p2, h1, h2, hfg]
      simp only [intsFrom, List.map_cons, forD, e5, e]
      simp [hfg]
    · obtain ⟨x4', e⟩ := wit_loop (x2 := x2) (x5 := x5) (x6 := x6) pa pb m (a + 1) (xs ++ [tup3 a (f a) (g a)]) (some (.int a)) (fun i q1 q2 => h i (by omega) (by omega)) (by simp; omega)
      refine ⟨x4', ?_⟩
      have e5 : witF Δ (.int a) [some (.inst as), some (.inst bs), x2, some (.loc 0), x4, x5, x6] [some (.lst xs)] = some (.next, [some (.inst as), some (.inst bs), x2, some (.loc 0), some (.int a), x5, x6], [some (.lst (xs ++ [tup3 a (f a) (g a)]))]) := by
        simp [witF, witBody, exSs, exS, evE, evEs, trE, evs, asgTs, asgT, setVar, p1, p2, h1, h2, hfg, isLst, hx2, show 3 ≤ maxLen by decide, tup3]
      simp only [intsFrom, List.map_cons, forD, e5, e]
      simp [hfg]
theorem witness_ok {Δ : Dl} {as bs : List (Nat × D)} {f g : Int → Int} {la lb : Int} {m : Nat} (pa : D.purea as = true) (pb : D.purea bs = true) (h1 : Δ.fns 100 [.inst as] = some (.int la)) (h2 : Δ.fns 100 [.inst bs] = some (.int lb)) (hm : max la lb + 1 = m) (hm2 : m ≤ 20000)
    (h : ∀ i : Int, 1 ≤ i → i ≤ m → Δ.fns 101 [.inst as, .int i] = some (.int (f i)) ∧ Δ.fns 101 [.inst bs, .int i] = some (.int (g i))) :
    runP Δ 200 fnotequalwitness [.inst as, .inst bs] = some (.lst (((intsFrom 1 m).filter (fun i => f i != g i)).map fun i => tup3 i (f i) (g i))) := by
  have hM : maxLen = 1048576 := rfl
  obtain ⟨x4', hl⟩ := wit_loop (Δ := Δ) (f := f) (g := g) (x2 := some (.int m)) (x5 := none) (x6 := none) pa pb m 1 [] none (fun i q1 q2 => h i q1 (by omega)) (by simp; omega)
  have p1 : D.pures [.inst as] = true := by simp [D.pures, D.pure, pa]
  have p2 : D.pures [.inst bs] = true := by simp [D.pures, D.pure, pb]
  have hn : ((m : Int) + 1 - 1).toNat = m := by omega
  have hi : itE Δ 196 (.bi .range [(.lit (.int 1)), (.bin .Add (.var 2) (.lit (.int 1)))]) [some (.inst as), some (.inst bs), some (.int m), some (.loc 0), none, none, none] [some (.lst [])] = some ((intsFrom 1 m).map .int, [some (.lst [])]) := by
    have := itE_range2 (Δ := Δ) (n := 195) (e1 := .lit (.int 1)) (e2 := .bin .Add (.var 2) (.lit (.int 1))) (vars := [some (.inst as), some (.inst bs), some (.int m), some (.loc 0), none, none, none]) (σ := [some (.lst [])]) (σ' := [some (.lst [])]) (a := 1) (b := m + 1) (by simp [evEs, evE, evs]) (by decide) (by simp [small]; omega) (by omega)
    rw [this, hn]
  have hb : exS Δ 197 (.for (.var 4) (.bi .range [(.lit (.int 1)), (.bin .Add (.var 2) (.lit (.int 1)))]) witBody) [some (.inst as), some (.inst bs), some (.int m), some (.loc 0), none, none, none] [some (.lst [])] = some (.next, [some (.inst as), some (.inst bs), some (.int m), some (.loc 0), x4', none, none], [some (.lst ([] ++ ((intsFrom 1 m).filter (fun i => f i != g i)).map fun i => tup3 i (f i) (g i)))]) := by
    rw [← hl]
    simp only [exS, hi, Option.bind_some]
    rfl
  have hbody : fnotequalwitness.body = [.asg [(.var 2)] (.bin .Add (.bi .max [(.meth 100 (.var 0) []), (.meth 100 (.var 1) [])]) (.lit (.int 1))), .asg [(.var 3)] (.lst []), .for (.var 4) (.bi .range [(.lit (.int 1)), (.bin .Add (.var 2) (.lit (.int 1)))]) witBody, .ret (.var 3)] := rfl
  have s1 : exS Δ 199 (.asg [(.var 2)] (.bin .Add (.bi .max [(.meth 100 (.var 0) []), (.meth 100 (.var 1) [])]) (.lit (.int 1)))) (startVars fnotequalwitness [.inst as, .inst bs]) [] = some (.next, [some (.inst as), some (.inst bs), some (.int m), none, none, none, none], []) := by
    rw [← hm]
    simp [exS, evE, evEs, evs, ress, p1, p2, h1, h2, max_ints, startVars, fnotequalwitness, asgTs, asgT, setVar]
  refine runP_of rfl (by simp [D.pures, D.pure, pa, pb]) ?_ ?_ (v := [some (.inst as), some (.inst bs), some (.int m), some (.loc 0), x4', none, none]) (σ := [none])
  · rw [hbody]
    refine (exSs_cons s1).trans ((exSs_cons rfl).trans ((exSs_cons hb).trans ?_))
    simp [exSs, exS, evE, frz, MObj.toD]
  · simp only [D.pure]
    exact pures_map _ (fun x => rfl) _
end Ev
end
section
set_option maxRecDepth 100000
set_option autoImplicit false
set_option linter.all false
set_option maxHeartbeats 4000000
namespace Ev
open PySem
theorem frz_pure {a : D} (pa : a.pure = true) (σ : Sto) : frz σ a = some (a, σ) := by cases a <;> first | rfl | (simp [D.pure] at pa)
section
variable {Δ Δ' : Dl} {a b c x : D}
theorem down1 (px : x.pure = true) : runM Δ 200 fsiftdown [x] [.int 0, .int 0] = some (.none, [x]) := by
  obtain ⟨k, w1⟩ : ∃ k, whFuel = k + 1 + 1 := ⟨998, rfl⟩
  simp (config := { maxSteps := 2000000 }) [runM, fsiftdown, exSs, exS, evE, evEs, trE, startVars, D.pures, D.pure, px, asgTs, asgT, setVar, evs, res_at, idxD, small, w1, whD_s, look]
theorem down2 {t : Bool} (h : ltD x a = some t) (hd : x.dep ≤ 50) (pa : a.pure = true) (px : x.pure = true) : runM Δ 200 fsiftdown [a, x] [.int 0, .int 1] = some (.none, if t then [x, a] else [a, x]) := by
  obtain ⟨k, w1⟩ : ∃ k, whFuel = k + 1 + 1 := ⟨998, rfl⟩
  have hc : cmpD .Lt x a = some t := h
  cases t <;> simp (config := { maxSteps := 2000000 }) [runM, fsiftdown, exSs, exS, evE, evEs, trE, startVars, D.pures, D.pure, pa, px, asgTs, asgT, setVar, fun σ => res_pure (σ := σ) pa, fun σ => res_pure (σ := σ) px, evs, res_at, idxD, binD, hc, small, hd, w1, whD_s, look]
theorem down3 {t : Bool} (h : ltD x a = some t) (hd : x.dep ≤ 50) (pa : a.pure = true) (pc : c.pure = true) (px : x.pure = true) : runM Δ 200 fsiftdown [a, c, x] [.int 0, .int 2] = some (.none, if t then [x, c, a] else [a, c, x]) := by
  obtain ⟨k, w1⟩ : ∃ k, whFuel = k + 1 + 1 := ⟨998, rfl⟩
  have hc : cmpD .Lt x a = some t := h
  cases t <;> simp (config := { maxSteps := 2000000 }) [runM, fsiftdown, exSs, exS, evE, evEs, trE, startVars, D.pures, D.pure, pa, pc, px, asgTs, asgT, setVar, fun σ => res_pure (σ := σ) pa, fun σ => res_pure (σ := σ) px, evs, res_at, idxD, binD, hc, small, hd, w1, whD_s, look]
theorem push0 (h2 : ∀ xs ds, Δ.muts 2 xs ds = runM Δ' 200 fsiftdown xs ds) (px : x.pure = true) : runM Δ 200 fheappush [] [x] = some (.none, [x]) := by
  have e2 := (h2 [x] [.int 0, .int 0]).trans (down1 px)
  simp [runM, fheappush, exSs, exS, evE, evEs, startVars, D.pures, D.pure, px, isLst, res, ress, biD, evs, small, maxLen, e2, look]
theorem push1 {t : Bool} (h2 : ∀ xs ds, Δ.muts 2 xs ds = runM Δ' 200 fsiftdown xs ds) (h : ltD x a = some t) (hd : x.dep ≤ 50) (pa : a.pure = true) (px : x.pure = true) : runM Δ 200 fheappush [a] [x] = some (.none, if t then [x, a] else [a, x]) := by
  have e2 := (h2 [a, x] [.int 0, .int 1]).trans (down2 h hd pa px)
  simp [runM, fheappush, exSs, exS, evE, evEs, startVars, D.pures, D.pure, pa, px, isLst, res, ress, biD, evs, small, maxLen, e2, look]
  cases t <;> simp [D.pures, pa, px]
theorem push2 {t : Bool} (h2 : ∀ xs ds, Δ.muts 2 xs ds = runM Δ' 200 fsiftdown xs ds) (h : ltD x a = some t) (hd : x.dep ≤ 50) (pa : a.pure = true) (pc : c.pure = true) (px : x.pure = true) : runM Δ 200 fheappush [a, c] [x] = some (.none, if t then [x, c, a] else [a, c, x]) := by
  have e2 := (h2 [a, c, x] [.int 0, .int 2]).trans (down3 h hd pa pc px)
  simp [runM, fheappush, exSs, exS, evE, evEs, startVars, D.pures, D.pure, pa, pc, px, isLst, res, ress, biD, evs, small, maxLen, e2, look]
  cases t <;> simp [D.pures, pa, pc, px]
theorem up1 (h2 : ∀ xs ds, Δ.muts 2 xs ds = runM Δ' 200 fsiftdown xs ds) (px : x.pure = true) : runM Δ 200 fsiftup [x] [.int 0] = some (.none, [x]) := by
  obtain ⟨k, w1⟩ : ∃ k, whFuel = k + 1 + 1 := ⟨998, rfl⟩
  have e2 := (h2 [x] [.int 0, .int 0]).trans (down1 px)
  simp (config := { maxSteps := 2000000 }) [runM, fsiftup, exSs, exS, evE, evEs, trE, startVars, D.pures, D.pure, px, asgTs, asgT, setVar, evs, res_at, ress, biD, maxLen, idxD, small, w1, whD_s, look, e2]
theorem up2 {t : Bool} (h2 : ∀ xs ds, Δ.muts 2 xs ds = runM Δ' 200 fsiftdown xs ds) (h : ltD x b = some t) (hd : x.dep ≤ 50) (pb : b.pure = true) (px : x.pure = true) : runM Δ 200 fsiftup [x, b] [.int 0] = some (.none, if t then [x, b] else [b, x]) := by
  obtain ⟨k, w1⟩ : ∃ k, whFuel = k + 1 + 1 := ⟨998, rfl⟩
  have e2 := (h2 [b, x] [.int 0, .int 1]).trans (down2 h hd pb px)
  cases t <;> simp (config := { maxSteps := 2000000 }) [runM, fsiftup, exSs, exS, evE, evEs, trE, startVars, D.pures, D.pure, pb, px, asgTs, asgT, setVar, evs, res_at, ress, biD, maxLen, idxD, small, w1, whD_s, look, e2]
theorem pop1 (pa : a.pure = true) : runM Δ 200 fheappop [a] [] = some (a, []) := by
  simp (config := { maxSteps := 2000000 }) [runM, fheappop, exSs, exS, evE, evEs, trE, startVars, D.pures, D.pure, pa, asgTs, asgT, setVar, res, truthD, maxLen, look, frz_pure pa]
theorem pop2 {Δ2 : Dl} (h3 : ∀ xs ds, Δ.muts 3 xs ds = runM Δ' 200 fsiftup xs ds) (h2 : ∀ xs ds, Δ'.muts 2 xs ds = runM Δ2 200 fsiftdown xs ds) (pa : a.pure = true) (pb : b.pure = true) : runM Δ 200 fheappop [a, b] [] = some (a, [b]) := by
  have e2 := (h3 [b] [.int 0]).trans (up1 h2 pb)
  simp (config := { maxSteps := 2000000 }) [runM, fheappop, exSs, exS, evE, evEs, trE, startVars, D.pures, D.pure, pa, pb, asgTs, asgT, setVar, evs, res_at, idxD, truthD, small, maxLen, look, frz_pure pa, e2]
theorem pop3 {Δ2 : Dl} {t : Bool} (h3 : ∀ xs ds, Δ.muts 3 xs ds = runM Δ' 200 fsiftup xs ds) (h2 : ∀ xs ds, Δ'.muts 2 xs ds = runM Δ2 200 fsiftdown xs ds) (h : ltD x b = some t) (hd : x.dep ≤ 50) (pa : a.pure = true) (pb : b.pure = true) (px : x.pure = true) : runM Δ 200 fheappop [a, b, x] [] = some (a, if t then [x, b] else [b, x]) := by
  have e2 := (h3 [x, b] [.int 0]).trans (up2 h2 h hd pb px)
  cases t <;> simp (config := { maxSteps := 2000000 }) [runM, fheappop, exSs, exS, evE, evEs, trE, startVars, D.pures, D.pure, pa, pb, px, asgTs, asgT, setVar, evs, res_at, idxD, truthD, small, maxLen, look, frz_pure pa, e2]
end
end Ev
end
section
set_option maxRecDepth 100000
set_option autoImplicit false
set_option linter.all false
set_option maxHeartbeats 4000000
namespace Ev
open PySem
def fEq (a b : UInt64) : Option Bool := if Float64.isNaN a || Float64.isNaN b then none else some (Float64.cmp a b == some Ordering.eq)
def fLt (a b : UInt64) : Option Bool := if Float64.isNaN a || Float64.isNaN b then none else some (Float64.cmp a b == some Ordering.lt)
def fGt (a b : UInt64) : Bool := Float64.cmp a b == some Ordering.gt
def fMax (r g b : UInt64) : UInt64 := if fGt g r then (if fGt b g then b else g) else (if fGt b r then b else r)
def fMin (r g b : UInt64) : Option UInt64 := (fLt g r).bind fun t => (fLt b (if t then g else r)).bind fun u => some (if u then b else if t then g else r)
theorem max_flts (r g b : UInt64) : biD .max [.flt r, .flt g, .flt b] = some (.flt (fMax r g b)) := by
  have hc : ∀ a b : UInt64, cmpD .Gt (.flt a) (.flt b) = some (fGt a b) := fun _ _ => rfl
  simp only [biD, bestOf, List.all_cons, num, List.all_nil, Bool.and_self, if_true, pickBest, hc, fMax]
  cases fGt g r <;> simp [hc] <;> cases fGt b _ <;> simp
theorem min_flts {r g b m : UInt64} (h : fMin r g b = some m) : biD .min [.flt r, .flt g, .flt b] = some (.flt m) := by
  have hc : ∀ a b : UInt64, cmpD .Lt (.flt a) (.flt b) = fLt a b := fun a b => by simp [cmpD, ltD, fLt]
  simp only [biD, bestOf, List.all_cons, num, List.all_nil, Bool.and_self, if_true, pickBest, hc]
  unfold fMin at h
  obtain ⟨t, h1, h⟩ := Option.bind_eq_some_iff.mp h
  obtain ⟨u, h2, h⟩ := Option.bind_eq_some_iff.mp h
  cases h
  rw [h1]
  cases t
  · simp only [Bool.false_eq_true, if_false] at h2 ⊢
    simp only [hc, h2]
    cases u <;> rfl
  · simp only [if_true] at h2 ⊢
    simp only [hc, h2]
    cases u <;> rfl
theorem eq_flts (a b : UInt64) : cmpD .Eq (.flt a) (.flt b) = fEq a b := by simp [cmpD, eqD, fEq]
/-- rgb_to_hsv on floats -/
def hueV (r g b mx mn : UInt64) (br bg : Bool) : UInt64 :=
  let d := Float64.sub mx mn
  let rc := Float64.div (Float64.sub mx r) d
  let gc := Float64.div (Float64.sub mx g) d
  let bc := Float64.div (Float64.sub mx b) d
  (Float64.divmod (Float64.div (if br then Float64.sub bc gc else if bg then Float64.sub (Float64.add 4611686018427387904 rc) bc else Float64.sub (Float64.add 4616189618054758400 gc) rc) 4618441417868443648) 4607182418800017408).2
def rgbV (r g b : UInt64) : Option (UInt64 × UInt64 × UInt64) :=
  (fMin r g b).bind fun mn => (fEq mn (fMax r g b)).bind fun t =>
    if t then some (0, 0, fMax r g b) else
      if Float64.isZero (fMax r g b) || Float64.isZero (Float64.sub (fMax r g b) mn) then none else
        (fEq r (fMax r g b)).bind fun br => (fEq g (fMax r g b)).bind fun bg => some (hueV r g b (fMax r g b) mn br bg, Float64.div (Float64.sub (fMax r g b) mn) (fMax r g b), fMax r g b)
theorem isFlt_flt (x : UInt64) : isFlt (.flt x) = true := rfl
theorem binF : (∀ a b : UInt64, binD .Add (.flt a) (.flt b) = some (.flt (Float64.add a b))) ∧ (∀ a b : UInt64, binD .Sub (.flt a) (.flt b) = some (.flt (Float64.sub a b))) ∧ (∀ a b : UInt64, binD .Mult (.flt a) (.flt b) = some (.flt (Float64.mul a b)))
    ∧ (∀ a b : UInt64, binD .Div (.flt a) (.flt b) = if Float64.isZero b then none else some (.flt (Float64.div a b))) ∧ (∀ a b : UInt64, binD .Mod (.flt a) (.flt b) = if Float64.isZero b then none else some (.flt (Float64.divmod a b).2))
    ∧ (∀ (a : Int) (b : UInt64), binD .Div (.int a) (.flt b) = if !bitsOk a || Float64.isZero b then none else some (.flt (Float64.div (Float64.ofInt a) b))) ∧ (∀ (a : Int) (b : UInt64), binD .Mult (.int a) (.flt b) = if !bitsOk a then none else some (.flt (Float64.mul (Float64.ofInt a) b))) := by
  refine ⟨?_, ?_, ?_, ?_, ?_, ?_, ?_⟩ <;> intros <;> rfl
theorem z6 : Float64.isZero 4618441417868443648 = false := by decide +kernel
theorem z1 : Float64.isZero 4607182418800017408 = false := by decide +kernel
theorem rgb_ok {Δ : Dl} (hot : Δ.hot = true) {r g b h s v : UInt64} (e : rgbV r g b = some (h, s, v)) : runP Δ 200 frgbtohsv [.flt r, .flt g, .flt b] = some (.tup [.flt h, .flt s, .flt v]) := by
  unfold rgbV at e
  obtain ⟨mn, e1, e⟩ := Option.bind_eq_some_iff.mp e
  obtain ⟨t, e2, e⟩ := Option.bind_eq_some_iff.mp e
  have hmin := min_flts e1
  have hmax := max_flts r g b
  generalize fMax r g b = mx at *
  refine Rets.run ?_ rfl rfl rfl
  refine .asg (x := .flt mx) (by simp [evE, evEs, evs, ress, hmax, startVars, frgbtohsv]) rfl ?_
  dsimp only [List.set, startVars, List.map, frgbtohsv, List.replicate, List.cons_append, List.nil_append, List.append]
  refine .asg (x := .flt mn) (by simp [evE, evEs, evs, ress, hmin]) rfl ?_
  refine .asg (x := .flt (Float64.sub mx mn)) (by simp [evE, evs, binF, hot]) rfl ?_
  refine .asg (x := .flt mx) rfl rfl ?_
  dsimp only [List.set]
  have s5 : trE Δ 194 (.cmp .Eq (.var 4) (.var 3)) [some (.flt r), some (.flt g), some (.flt b), some (.flt mx), some (.flt mn), some (.flt (Float64.sub mx mn)), some (.flt mx), none, none, none, none, none, none, none] [] = some (t, []) := by
    simp [trE, evE, evs, eq_flts, e2]
  cases t with
  | true =>
    simp at e
    obtain ⟨rfl, rfl, rfl⟩ := e
    refine .ifTrue s5 (.ret (x := .tup [.flt 0, .flt 0, .flt mx]) (by simp [evE, evEs, hot, show 3 ≤ maxLen by decide]) rfl)
  | false =>
    simp only [Bool.false_eq_true, if_false] at e
    split at e
    · cases e
    · rename_i hz
      simp only [Bool.or_eq_true, not_or, Bool.not_eq_true] at hz
      obtain ⟨br, e3, e⟩ := Option.bind_eq_some_iff.mp e
      obtain ⟨bg, e4, e⟩ := Option.bind_eq_some_iff.mp e
      simp at e
      obtain ⟨rfl, rfl, rfl⟩ := e
      refine .skip s5 ?_
      refine .asg (x := .flt (Float64.div (Float64.sub mx mn) mx)) (by simp [evE, evs, binF, hot, hz]) rfl ?_
      refine .asg (x := .flt (Float64.div (Float64.sub mx r) (Float64.sub mx mn))) (by simp [evE, evs, binF, hot, hz]) rfl ?_
      refine .asg (x := .flt (Float64.div (Float64.sub mx g) (Float64.sub mx mn))) (by simp [evE, evs, binF, hot, hz]) rfl ?_
      refine .asg (x := .flt (Float64.div (Float64.sub mx b) (Float64.sub mx mn))) (by simp [evE, evs, binF, hot, hz]) rfl ?_
      dsimp only [List.set]
      have h1 : ∀ σ, trE Δ 189 (.cmp .Eq (.var 0) (.var 3)) [some (D.flt r), some (D.flt g), some (D.flt b), some (D.flt mx), some (D.flt mn), some (D.flt (Float64.sub mx mn)), some (D.flt mx), some (D.flt (Float64.div (Float64.sub mx mn) mx)), some (D.flt (Float64.div (Float64.sub mx r) (Float64.sub mx mn))), some (D.flt (Float64.div (Float64.sub mx g) (Float64.sub mx mn))), some (D.flt (Float64.div (Float64.sub mx b) (Float64.sub mx mn))), none, none, none] σ = some (br, σ) := fun σ => by simp [trE, evE, evs, eq_flts, e3]
      have h2 : ∀ σ, trE Δ 187 (.cmp .Eq (.var 1) (.var 3)) [some (D.flt r), some (D.flt g), some (D.flt b), some (D.flt mx), some (D.flt mn), some (D.flt (Float64.sub mx mn)), some (D.flt mx), some (D.flt (Float64.div (Float64.sub mx mn) mx)), some (D.flt (Float64.div (Float64.sub mx r) (Float64.sub mx mn))), some (D.flt (Float64.div (Float64.sub mx g) (Float64.sub mx mn))), some (D.flt (Float64.div (Float64.sub mx b) (Float64.sub mx mn))), none, none, none] σ = some (bg, σ) := fun σ => by simp [trE, evE, evs, eq_flts, e4]
      refine .step (vars' := [some (D.flt r), some (D.flt g), some (D.flt b), some (D.flt mx), some (D.flt mn), some (D.flt (Float64.sub mx mn)), some (D.flt mx), some (D.flt (Float64.div (Float64.sub mx mn) mx)), some (D.flt (Float64.div (Float64.sub mx r) (Float64.sub mx mn))), some (D.flt (Float64.div (Float64.sub mx g) (Float64.sub mx mn))), some (D.flt (Float64.div (Float64.sub mx b) (Float64.sub mx mn))), some (D.flt (if br then Float64.sub (Float64.div (Float64.sub mx b) (Float64.sub mx mn)) (Float64.div (Float64.sub mx g) (Float64.sub mx mn)) else if bg then Float64.sub (Float64.add 4611686018427387904 (Float64.div (Float64.sub mx r) (Float64.sub mx mn))) (Float64.div (Float64.sub mx b) (Float64.sub mx mn)) else Float64.sub (Float64.add 4616189618054758400 (Float64.div (Float64.sub mx g) (Float64.sub mx mn))) (Float64.div (Float64.sub mx r) (Float64.sub mx mn)))), none, none]) (σ' := []) ((exS_if (h1 [])).trans ?_) ?_
      · cases br with
        | true => simp [exSs, exS, evE, evs, binF, hot, asgTs, asgT, setVar]
        | false =>
          simp only [Bool.false_eq_true, if_false]
          refine exSs_one ((exS_if (h2 [])).trans ?_)
          cases bg <;> simp [exSs, exS, evE, evs, binF, hot, asgTs, asgT, setVar]
      refine .asg (x := .flt (hueV r g b mx mn br bg)) (by simp [evE, evs, binF, hot, hueV, z6, z1]) rfl ?_
      exact .ret (x := .tup [.flt (hueV r g b mx mn br bg), .flt (Float64.div (Float64.sub mx mn) mx), .flt mx]) (by simp [evE, evEs, show 3 ≤ maxLen by decide]) rfl
end Ev
namespace Ev
open PySem
theorem min_ints3 (a b c : Int) : biD .min [.int a, .int b, .int c] = some (.int (min (min a b) c)) := by
  have hc : ∀ a b : Int, cmpD .Lt (.int a) (.int b) = some (decide (a < b)) := fun a b => by simp [cmpD, ltD]
  simp only [biD, bestOf, List.all_cons, num, List.all_nil, Bool.and_self, if_true, pickBest, hc]
  by_cases h : b < a
  · simp only [h, decide_true, hc]
    by_cases h2 : c < b
    · simp [h2]; omega
    · simp [h2]; omega
  · simp only [h, decide_false, hc]
    by_cases h2 : c < a
    · simp [h2]; omega
    · simp [h2]; omega
def colV (C : UInt64) (r g b : Int) : Option (UInt64 × UInt64 × UInt64) :=
  if bitsOk r && bitsOk g && bitsOk b && !Float64.isZero C then rgbV (Float64.div (Float64.ofInt r) C) (Float64.div (Float64.ofInt g) C) (Float64.div (Float64.ofInt b) C) else none
def ringV (c : Int) (s v : UInt64) : Option Int := if bitsOk c then roundD (Float64.mul (Float64.mul (Float64.ofInt c) s) v) else none
def placeV (r : Int) (h : UInt64) : Option Int := if bitsOk (6 * r) then roundD (Float64.mul (Float64.ofInt (6 * r)) h) else none
end Ev
end
section
set_option maxRecDepth 100000
set_option autoImplicit false
set_option linter.all false
set_option maxHeartbeats 8000000
namespace Ev
open PySem
theorem intsOf_map : ∀ l : List Int, intsOf (l.map .int) = some l
  | [] => rfl
  | i :: l => by simp [intsOf, intsOf_map l]
theorem sum_ints (l : List Int) : biD .sum [.lst (l.map .int)] = some (.int (sumInts l)) := by simp [biD, intsOf_map]
theorem sum_lst {xs : List D} {l : List Int} (h : xs = l.map .int) : biD .sum [.lst xs] = some (.int (sumInts l)) := by rw [h, sum_ints]
theorem filterMap_map_get (zs : List Int) : ∀ l : List Nat, l.filterMap ((zs.map D.int)[·]?) = (l.filterMap (zs[·]?)).map .int
  | [] => rfl
  | k :: l => by
    have ih := filterMap_map_get zs l
    simp only [List.filterMap_cons, List.getElem?_map] at ih ⊢
    cases zs[k]? <;> simp [ih]
/-- a slice of a list of ints is one -/
theorem sli_ints {zs : List Int} {lo hi st : Option Int} (h : zs.length ≤ maxLen) (h0 : st ≠ some 0) : ∃ ys : List Int, sliD (.lst (zs.map .int)) lo hi st = some (.lst (ys.map .int)) := by
  refine ⟨((sliceRange (sliceBounds lo hi st (zs.map D.int).length).1 (sliceBounds lo hi st (zs.map D.int).length).2.1 (sliceBounds lo hi st (zs.map D.int).length).2.2).filterMap (zs[·]?)), ?_⟩
  rw [sliD, if_pos ⟨by simpa using h, h0⟩, filterMap_map_get]
theorem sli_one {zs : List Int} (h : zs.length ≤ maxLen) (a : Nat) : ∃ ys : List Int, sliD (.lst (zs.map .int)) (some (a : Int)) (some ((a + 1 : Nat) : Int)) none = some (.lst (ys.map .int)) ∧ ys.length ≤ 1 := by
  refine ⟨(zs.drop (clipAt zs.length a)).take (clipAt zs.length ((a + 1 : Nat) : Int) - clipAt zs.length a), ?_, ?_⟩
  · rw [sliD, if_pos ⟨by simpa using h, by simp⟩, sliceBounds_plain]
    simp only [Option.elim, sliceRange_one, List.length_map, filterMap_map_get]
    have := pick_run (xs := zs.toArray) (clipAt zs.length a) (clipAt zs.length ((a + 1 : Nat) : Int) - clipAt zs.length a)
    simp only [List.getElem?_toArray] at this
    rw [this]
  · rw [clipAt_nat, clipAt_nat]
    simp only [List.length_take]
    omega
theorem joinD_nil : ∀ l : List (List Nat), joinD [] (l.map .str) = some l.flatten
  | [] => rfl
  | [a] => by simp [joinD]
  | a :: b :: l => by
    have := joinD_nil (b :: l)
    simp only [List.map_cons] at this
    simp [joinD, this]
theorem rep_one (n : Nat) (c : Nat) : (List.replicate n [c]).flatten = List.replicate n c := by
  induction n with
  | zero => rfl
  | succ n ih => simp [List.replicate_succ, ih]
theorem runText_flatten (runs : List Nat) : (runs.map fun r => List.replicate r 32 ++ [9]).flatten = runText runs := by
  simp [runText, List.flatMap]
theorem runText_len : ∀ (runs : List Nat) (b : Nat), (∀ r ∈ runs, r ≤ b) → (runText runs).length ≤ runs.length * (b + 1)
  | [], _, _ => by simp [runText]
  | r :: runs, b, h => by
    have ih := runText_len runs b (fun q hq => h q (by simp [hq]))
    have h1 := h r (by simp)
    have : runText (r :: runs) = List.replicate r 32 ++ [9] ++ runText runs := by simp [runText]
    rw [this]
    simp only [List.length_append, List.length_replicate, List.length_cons, List.length_nil]
    rw [Nat.add_mul]; omega
theorem runText_ascii : ∀ (runs : List Nat), (runText runs).all (· < 128) = true := by
  intro runs
  simp only [runText, List.all_flatMap, List.all_append, List.all_replicate]
  simp
/-- ' ' * r + '\t' -/
theorem runStr {i : Int} (h : 0 ≤ i ∧ i ≤ 9999) : binD .Mult (.str [32]) (.int i) = some (.str (List.replicate i.toNat 32)) := by
  have h1 : small i = true := by simp [small]; omega
  have h2 : 1 * i.toNat ≤ maxLen := by have : maxLen = 1048576 := rfl; omega
  have h3 : [32].length = 1 := rfl
  simp only [binD, h3, h1, h2, decide_true, Bool.and_self, if_true, rep_one]

theorem evE_join {Δ : Dl} {n : Nat} {o a : E} {vars : Vars} {σ σ1 σ2 : Sto} {s t : List Nat} {xs : List D} (h1 : evE Δ n o vars σ = some (.str s, σ1)) (h2 : evE Δ n a vars σ1 = some (.lst xs, σ2)) (hj : joinD s xs = some t) (hl : t.length + xs.length + s.length ≤ maxLen) : evE Δ (n + 1) (.join o a) vars σ = some (.str t, σ2) := by
  simp only [evE, h1, Option.bind_some, h2, evs, hj, hl, if_true]
theorem evE_new {Δ : Dl} {n : Nat} {a : E} {vars : Vars} {σ σ1 : Sto} {x d : D} (h1 : evE Δ n a vars σ = some (x, σ1)) (hp : x.pure = true) (hn : Δ.new x = some d) : evE Δ (n + 1) (.new a) vars σ = some (d, σ1) := by
  simp only [evE, h1, Option.bind_some, hp, if_true, hn, Option.map_some]
theorem evE_addS {Δ : Dl} {n : Nat} {a b : E} {vars : Vars} {σ σ1 σ2 : Sto} {s t : List Nat} (h1 : evE Δ n a vars σ = some (.str s, σ1)) (h2 : evE Δ n b vars σ1 = some (.str t, σ2)) (hl : s.length + t.length ≤ maxLen) : evE Δ (n + 1) (.bin .Add a b) vars σ = some (.str (s ++ t), σ2) := by
  simp only [evE, h1, Option.bind_some, h2, evs, hl, if_true]
  simp
theorem evE_eq {Δ : Dl} {n : Nat} {a b : E} {vars : Vars} {σ σ1 σ2 : Sto} {x y x' y' : D} {t : Bool} (h1 : evE Δ n a vars σ = some (x, σ1)) (h2 : evE Δ n b vars σ1 = some (y, σ2)) (r1 : res σ2 x = some x') (r2 : res σ2 y = some y') (hd : x'.dep ≤ 50) (hc : cmpD .Eq x' y' = some t) : evE Δ (n + 1) (.cmp .Eq a b) vars σ = some (.bool t, σ2) := by
  simp only [evE, h1, Option.bind_some, h2, r1, r2, hd, if_true, hc, Option.map_some]
theorem evE_ne {Δ : Dl} {n : Nat} {a b : E} {vars : Vars} {σ σ1 σ2 : Sto} {x y x' y' : D} {t : Bool} (h1 : evE Δ n a vars σ = some (x, σ1)) (h2 : evE Δ n b vars σ1 = some (y, σ2)) (r1 : res σ2 x = some x') (r2 : res σ2 y = some y') (hd : x'.dep ≤ 50) (hc : cmpD .NotEq x' y' = some t) : evE Δ (n + 1) (.cmp .NotEq a b) vars σ = some (.bool t, σ2) := by
  simp only [evE, h1, Option.bind_some, h2, r1, r2, hd, if_true, hc, Option.map_some]
theorem trE_cmp {Δ : Dl} {n : Nat} {op : CmpOp} {a b : E} {vars : Vars} {σ σ1 : Sto} {t : Bool} (h : evE Δ n (.cmp op a b) vars σ = some (.bool t, σ1)) : trE Δ (n + 1) (.cmp op a b) vars σ = some (t, σ1) := by
  simp only [trE, h, Option.bind_some, evs, Option.map_some]
theorem evEs_one {Δ : Dl} {n : Nat} {a : E} {vars : Vars} {σ σ1 : Sto} {x : D} (h : evE Δ (n + 1) a vars σ = some (x, σ1)) : evEs Δ (n + 1 + 1) [a] vars σ = some ([x], σ1) := by
  simp only [evEs, h, Option.bind_some, Option.map_some]
/-- a comprehension that keeps every item -/
theorem compD_map {α : Type} {f : D → Vars → Sto → Option (Option D × Vars × Sto)} (enc out : α → D) (I : Vars → Prop) {σ : Sto} {l : List α} {vs : Vars} (hf : ∀ a ∈ l, ∀ vs, I vs → ∃ vs', f (enc a) vs σ = some (some (out a), vs', σ) ∧ I vs') (i : I vs) : compD f (l.map enc) vs σ = some (l.map out, σ) := by
  induction l generalizing vs with
  | nil => rfl
  | cons a l ih =>
    obtain ⟨vs', e, i'⟩ := hf a (by simp) vs i
    have := ih (fun i hi => hf i (by simp [hi])) i'
    simp only [List.map_cons, compD, e, this]
/-- a comprehension with a test -/
theorem compD_filter {α : Type} {f : D → Vars → Sto → Option (Option D × Vars × Sto)} (enc out : α → D) (p : α → Bool) (I : Vars → Prop) {σ : Sto} {l : List α} {vs : Vars} (hf : ∀ a ∈ l, ∀ vs, I vs → ∃ vs', f (enc a) vs σ = some (if p a then some (out a) else none, vs', σ) ∧ I vs') (i : I vs) : compD f (l.map enc) vs σ = some ((l.filter p).map out, σ) := by
  induction l generalizing vs with
  | nil => rfl
  | cons a l ih =>
    obtain ⟨vs', e, i'⟩ := hf a (by simp) vs i
    have := ih (fun i hi => hf i (by simp [hi])) i'
    simp only [List.map_cons, compD, e]
    cases q : p a
    · simp only [Bool.false_eq_true, if_false, this, List.filter_cons, q]
    · simp only [if_true, this, List.filter_cons, q, List.map_cons]
/-- a for whose turns leave the store alone -/
theorem forD_all {α : Type} {f : D → Vars → Sto → Option (Flw × Vars × Sto)} (enc : α → D) (I : Vars → Prop) {σ : Sto} {l : List α} {vs : Vars} (hf : ∀ a ∈ l, ∀ vs, I vs → ∃ vs', f (enc a) vs σ = some (.next, vs', σ) ∧ I vs') (i : I vs) : ∃ vs', forD f (l.map enc) vs σ = some (.next, vs', σ) ∧ I vs' := by
  induction l generalizing vs with
  | nil => exact ⟨vs, rfl, i⟩
  | cons a l ih =>
    obtain ⟨vs', e, i'⟩ := hf a (by simp) vs i
    obtain ⟨vs2, e2, i2⟩ := ih (fun i hi => hf i (by simp [hi])) i'
    exact ⟨vs2, by simp only [List.map_cons, forD, e, e2], i2⟩
theorem eqDs_refl {α : Type} (enc : α → D) (h : ∀ a, eqD (enc a) (enc a) = some true) : ∀ l : List α, eqDs (l.map enc) (l.map enc) = some true
  | [] => by simp [eqDs]
  | a :: l => by simp [eqDs, h a, eqDs_refl enc h l]
theorem deps_map {α : Type} (enc : α → D) {k : Nat} (h : ∀ a, (enc a).dep ≤ k) : ∀ l : List α, D.deps (l.map enc) ≤ k
  | [] => by simp [D.deps]
  | a :: l => by have := deps_map enc h l; have := h a; simp [D.deps]; omega
theorem cmp_same {α : Type} (enc : α → D) (h : ∀ a, eqD (enc a) (enc a) = some true) (l : List α) : cmpD .Eq (.lst (l.map enc)) (.lst (l.map enc)) = some true ∧ cmpD .NotEq (.lst (l.map enc)) (.lst (l.map enc)) = some false := by
  simp [cmpD, eqD, eqDs_refl enc h l]
theorem longest_mem : ∀ {runs : List Nat} {r : Nat}, r ∈ runs → r + 1 ≤ longest runs
  | r' :: runs, r, h => by
    simp only [List.mem_cons] at h
    simp only [longest]
    rcases h with rfl | h
    · omega
    · have := longest_mem h; omega
theorem longest_le : ∀ {runs : List Nat} {b : Nat}, (∀ r ∈ runs, r ≤ b) → longest runs ≤ b + 1
  | [], _, _ => by simp [longest]
  | r :: runs, b, h => by
    have := longest_le (runs := runs) (fun q hq => h q (by simp [hq]))
    have := h r (by simp)
    simp only [longest]; omega
theorem intsFrom_app : ∀ (m : Nat) (a : Int) (n : Nat), intsFrom a (m + n) = intsFrom a m ++ intsFrom (a + m) n
  | 0, a, n => by simp [intsFrom]
  | m + 1, a, n => by
    rw [show m + 1 + n = (m + n) + 1 by omega, intsFrom, intsFrom_app m, intsFrom]
    simp only [List.cons_append]
    rw [show a + 1 + (m : Int) = a + ((m + 1 : Nat) : Int) by omega]
end Ev
end
section
open PySem PySem.W PyProof.Rows
set_option maxRecDepth 100000
set_option maxHeartbeats 8000000
open_top hd for PySem.Challenge.rw_pg0205_03
end
section
set_option maxRecDepth 100000
set_option autoImplicit false
set_option linter.all false
namespace Ev
open PySem PySem.W PySem.Calls PyProof.Rows PySem.SeqAt
def C3 : Cc := Cc.mk ["rgb_to_hsv", "_law_turned", "_law_spot", "_law_cross", "_law_name", "_law_back", "_law_common", "_law_runs", "_law_lead"] ["heappush", "heappop", "_siftdown", "_siftup"] ["longest_run_of_spaces", "indent_level", "not_equal_witness"] "Whitespace" [("S", [32]), ("T", [9])]
def flawturned : Fn := ⟨1, 1, [
  .ret (.lst [(.bin .Sub (.idx (.var 0) (.lit (.int 0))) (.idx (.var 0) (.lit (.int 1)))), (.idx (.var 0) (.lit (.int 0)))])]⟩
def flawspot : Fn := ⟨5, 1, [
  .asg [(.var 1)] (.lst [(.bin .Add (.lit (.int 1)) (.bin .Mod (.var 0) (.lit (.int 4)))), (.bin .Mod (.bin .FloorDiv (.var 0) (.lit (.int 4))) (.lit (.int 5)))]),
  .for (.var 2) (.bi .range [(.bin .Mod (.bin .FloorDiv (.var 0) (.lit (.int 20))) (.lit (.int 6)))]) [.asg [(.var 1)] (.call 1 [(.var 1)])],
  .ret (.var 1)]⟩
def flawcross : Fn := ⟨2, 2, [
  .ret (.bin .Sub (.bin .Mult (.idx (.var 0) (.lit (.int 0))) (.idx (.var 1) (.lit (.int 1)))) (.bin .Mult (.idx (.var 0) (.lit (.int 1))) (.idx (.var 1) (.lit (.int 0)))))]⟩
def flawname : Fn := ⟨12, 2, [
  .asg [(.var 2)] (.bin .Sub (.var 1) (.bi .min [(.idx (.var 0) (.lit (.int 0))), (.idx (.var 0) (.lit (.int 1))), (.lit (.int 0))])),
  .asg [(.tup [3, 4, 5])] (.call 0 [(.bin .Div (.bin .Add (.var 2) (.idx (.var 0) (.lit (.int 0)))) (.lit (.flt 4634204016564240384))), (.bin .Div (.bin .Add (.var 2) (.idx (.var 0) (.lit (.int 1)))) (.lit (.flt 4634204016564240384))), (.bin .Div (.var 2) (.lit (.flt 4634204016564240384)))]),
  .asg [(.var 6)] (.bi .round [(.bin .Mult (.bin .Mult (.lit (.int 64)) (.var 4)) (.var 5))]),
  .asg [(.var 7)] (.bi .round [(.bin .Mult (.bin .Mult (.lit (.int 6)) (.var 6)) (.var 3))]),
  .asg [(.var 8)] (.bin .Mod (.var 7) (.var 6)),
  .ret (.tup [(.bin .Sub (.bin .Mult (.var 8) (.bin .Sub (.var 6) (.var 8))) (.bin .Mult (.var 6) (.var 6))), (.var 6), (.var 7)])]⟩
def flawback : Fn := ⟨9, 2, [
  .asg [(.var 2)] (.lst [(.tup [(.lit (.int 1)), (.lit (.int 0))]), (.tup [(.lit (.int 1)), (.lit (.int 1))]), (.tup [(.lit (.int 0)), (.lit (.int 1))]), (.tup [(.neg (.lit (.int 1))), (.lit (.int 0))]), (.tup [(.neg (.lit (.int 1))), (.neg (.lit (.int 1)))]), (.tup [(.lit (.int 0)), (.neg (.lit (.int 1)))])]),
  .asg [(.tup [3, 4])] (.bi .divmod [(.var 1), (.var 0)]),
  .asg [(.var 5)] (.idx (.var 2) (.bin .Mod (.var 3) (.lit (.int 6)))),
  .asg [(.var 6)] (.idx (.var 2) (.bin .Mod (.bin .Add (.var 3) (.lit (.int 1))) (.lit (.int 6)))),
  .ret (.comp [none, none, some 5, some 0, some 6, some 4] (.bin .Add (.bin .Mult (.bin .Sub (.var 3) (.var 5)) (.idx (.var 2) (.var 1))) (.bin .Mult (.var 5) (.idx (.var 4) (.var 1)))) (.var 1) (.bi .range [(.lit (.int 2))]) [])]⟩
def flawcommon : Fn := ⟨19, 2, [
  .asg [(.var 2)] (.lst []),
  .for (.var 3) (.var 0) [.expr (.mcall 0 (.var 2) [(.var 3)])],
  .wh (.cmp .Gt (.bi .len [(.var 2)]) (.lit (.int 1))) [.asg [(.tup [4, 5, 6])] (.mcall 1 (.var 2) []), .asg [(.tup [7, 8, 9])] (.idx (.var 2) (.lit (.int 0))), .asg [(.var 10)] (.bin .FloorDiv (.bin .Add (.bin .Mult (.lit (.int 2)) (.bin .Sub (.bin .Mult (.var 6) (.var 8)) (.bin .Mult (.var 9) (.var 5)))) (.bin .Mult (.var 5) (.var 8))) (.bin .Mult (.bin .Mult (.lit (.int 2)) (.var 5)) (.var 8))), .asg [(.var 11)] (.call 5 [(.var 5), (.var 6)]), .asg [(.var 12)] (.call 5 [(.var 8), (.bin .Add (.var 9) (.bin .Mult (.var 10) (.var 8)))]), .asg [(.var 13)] (.lst [(.bin .Sub (.idx (.var 11) (.lit (.int 0))) (.idx (.var 12) (.lit (.int 0)))), (.bin .Sub (.idx (.var 11) (.lit (.int 1))) (.idx (.var 12) (.lit (.int 1))))]), .ite (.cmp .NotEq (.var 13) (.lst [(.lit (.int 0)), (.lit (.int 0))])) [.expr (.mcall 0 (.var 2) [(.call 4 [(.var 13), (.var 1)])])] []],
  .ret (.idx (.var 2) (.lit (.int 0)))]⟩
def flawruns : Fn := ⟨8, 1, [
  .asg [(.var 1)] (.lst []),
  .for (.var 2) (.bi .range [(.bi .len [(.var 0)])]) [.expr (.append (.var 1) (.call 3 [(.idx (.var 0) (.var 2)), (.call 1 [(.idx (.var 0) (.var 2))])])), .for (.var 3) (.bi .range [(.var 2)]) [.expr (.append (.var 1) (.call 3 [(.idx (.var 0) (.var 3)), (.idx (.var 0) (.var 2))])), .expr (.append (.var 1) (.call 3 [(.idx (.var 0) (.var 3)), (.call 1 [(.idx (.var 0) (.var 2))])]))]],
  .ret (.comp [none, none, none] (.bi .abs [(.var 1)]) (.var 1) (.var 1) [(.cmp .NotEq (.var 1) (.lit (.int 0)))])]⟩
def flawlead : Fn := ⟨2, 1, [
  .ret (.new (.bin .Add (.join (.lit (.str [])) (.comp [none, none] (.bin .Add (.bin .Mult (.lit (.str [32])) (.var 1)) (.lit (.str [9]))) (.var 1) (.var 0) [])) (.lit (.str [120, 32, 9]))))]⟩
def flaw : Fn := ⟨24, 1, [
  .asg [(.var 1)] (.bin .Add (.comp [none, none, none, none, some 0] (.bin .Add (.var 2) (.bi .sum [(.sli (.var 4) (some (.var 1)) (some (.bin .Add (.var 1) (.lit (.int 1)))) none)])) (.tup [1, 2]) (.bi .enumerate [(.lst [(.lit (.int 2)), (.lit (.int 91))])]) []) (.sli (.var 0) (some (.lit (.int 2))) (some (.lit (.int 3))) none)),
  .asg [(.var 2)] (.comp [none, none, none] (.call 2 [(.bin .Mod (.var 1) (.lit (.int 120)))]) (.var 1) (.var 1) []),
  .asg [(.var 3)] (.bin .Mod (.bi .sum [(.sli (.var 0) none (some (.lit (.int 3))) none)]) (.lit (.int 4))),
  .asg [(.var 5)] (.comp [none, none, none, some 3] (.call 4 [(.var 1), (.var 3)]) (.var 1) (.var 2) []),
  .ite (.cmp .NotEq (.comp [none, none, none, none, none] (.call 5 [(.var 2), (.var 3)]) (.tup [1, 2, 3]) (.var 5) []) (.var 2)) [.ret (.lit (.bool false))] [],
  .asg [(.tup [6, 7, 8])] (.call 6 [(.var 5), (.var 3)]),
  .asg [(.var 9)] (.call 5 [(.var 7), (.var 8)]),
  .asg [(.var 10)] (.call 1 [(.var 9)]),
  .asg [(.var 11)] (.call 3 [(.var 9), (.var 10)]),
  .ite (.cmp .NotEq (.var 11) (.bin .Sub (.lit (.int 0)) (.var 6))) [.ret (.lit (.bool false))] [],
  .for (.var 4) (.var 2) [.ite (.either (.cmp .NotEq (.bin .Mod (.call 3 [(.var 4), (.var 10)]) (.var 11)) (.lit (.int 0))) (.cmp .NotEq (.bin .Mod (.call 3 [(.var 9), (.var 4)]) (.var 11)) (.lit (.int 0)))) [.ret (.lit (.bool false))] []],
  .asg [(.var 12)] (.call 7 [(.var 2)]),
  .asg [(.var 13)] (.meth 102 (.call 8 [(.var 12)]) [(.call 8 [(.comp [none, none] (.bin .Sub (.var 1) (.lit (.int 1))) (.var 1) (.var 12) [])])]),
  .asg [(.var 14)] (.comp [none, none, none, none, none, some 12] (.var 1) (.tup [1, 2, 3]) (.var 13) [(.cmp .Eq (.bin .Sub (.var 2) (.var 3)) (.bin .Mult (.var 1) (.bi .len [(.var 5)])))]),
  .ret (.cmp .Eq (.var 14) (.comp [none, none, some 11] (.var 1) (.var 1) (.bi .range [(.lit (.int 1)), (.bin .Add (.var 11) (.lit (.int 1)))]) [(.cmp .Eq (.bin .Mod (.var 2) (.var 1)) (.lit (.int 0)))]))]⟩
def T3fns : Nat → Option Fn
    | 0 => some frgbtohsv
    | 1 => some flawturned
    | 2 => some flawspot
    | 3 => some flawcross
    | 4 => some flawname
    | 5 => some flawback
    | 6 => some flawcommon
    | 7 => some flawruns
    | 8 => some flawlead
    | 100 => some flongestrunofspaces
    | 101 => some findentlevel
    | 102 => some fnotequalwitness
    | _ => none
def T3muts : Nat → Option Fn
    | 0 => some fheappush
    | 1 => some fheappop
    | 2 => some fsiftdown
    | 3 => some fsiftup
    | _ => none
def T3 : Tbl := ⟨T3fns, T3muts, finit⟩
theorem t3n0 (P : Params) : nsIn (hd.heap_39 P) mainGlobals ("rgb_to_hsv" : Str) = some (some (.ref 28)) ∧ keepIn (hd.heap_39 P) (.ref 28) = true := ⟨by kernel_rfl, by kernel_rfl⟩
theorem t3f0 (P : Params) : fnChk C3 (hd.heap_39 P) 28 = some frgbtohsv := by kernel_rfl
theorem t3n1 (P : Params) : nsIn (hd.heap_39 P) mainGlobals ("_law_turned" : Str) = some (some (.ref 129)) ∧ keepIn (hd.heap_39 P) (.ref 129) = true := ⟨by kernel_rfl, by kernel_rfl⟩
theorem t3f1 (P : Params) : fnChk C3 (hd.heap_39 P) 129 = some flawturned := by kernel_rfl
theorem t3n2 (P : Params) : nsIn (hd.heap_39 P) mainGlobals ("_law_spot" : Str) = some (some (.ref 136)) ∧ keepIn (hd.heap_39 P) (.ref 136) = true := ⟨by kernel_rfl, by kernel_rfl⟩
theorem t3f2 (P : Params) : fnChk C3 (hd.heap_39 P) 136 = some flawspot := by kernel_rfl
theorem t3n3 (P : Params) : nsIn (hd.heap_39 P) mainGlobals ("_law_cross" : Str) = some (some (.ref 143)) ∧ keepIn (hd.heap_39 P) (.ref 143) = true := ⟨by kernel_rfl, by kernel_rfl⟩
theorem t3f3 (P : Params) : fnChk C3 (hd.heap_39 P) 143 = some flawcross := by kernel_rfl
theorem t3n4 (P : Params) : nsIn (hd.heap_39 P) mainGlobals ("_law_name" : Str) = some (some (.ref 150)) ∧ keepIn (hd.heap_39 P) (.ref 150) = true := ⟨by kernel_rfl, by kernel_rfl⟩
theorem t3f4 (P : Params) : fnChk C3 (hd.heap_39 P) 150 = some flawname := by kernel_rfl
theorem t3n5 (P : Params) : nsIn (hd.heap_39 P) mainGlobals ("_law_back" : Str) = some (some (.ref 155)) ∧ keepIn (hd.heap_39 P) (.ref 155) = true := ⟨by kernel_rfl, by kernel_rfl⟩
theorem t3f5 (P : Params) : fnChk C3 (hd.heap_39 P) 155 = some flawback := by kernel_rfl
theorem t3n6 (P : Params) : nsIn (hd.heap_39 P) mainGlobals ("_law_common" : Str) = some (some (.ref 162)) ∧ keepIn (hd.heap_39 P) (.ref 162) = true := ⟨by kernel_rfl, by kernel_rfl⟩
theorem t3f6 (P : Params) : fnChk C3 (hd.heap_39 P) 162 = some flawcommon := by kernel_rfl
theorem t3n7 (P : Params) : nsIn (hd.heap_39 P) mainGlobals ("_law_runs" : Str) = some (some (.ref 167)) ∧ keepIn (hd.heap_39 P) (.ref 167) = true := ⟨by kernel_rfl, by kernel_rfl⟩
theorem t3f7 (P : Params) : fnChk C3 (hd.heap_39 P) 167 = some flawruns := by kernel_rfl
theorem t3n8 (P : Params) : nsIn (hd.heap_39 P) mainGlobals ("_law_lead" : Str) = some (some (.ref 172)) ∧ keepIn (hd.heap_39 P) (.ref 172) = true := ⟨by kernel_rfl, by kernel_rfl⟩
theorem t3f8 (P : Params) : fnChk C3 (hd.heap_39 P) 172 = some flawlead := by kernel_rfl
theorem t3n9 (P : Params) : nsIn (hd.heap_39 P) mainGlobals ("heappush" : Str) = some (some (.ref 35)) ∧ keepIn (hd.heap_39 P) (.ref 35) = true := ⟨by kernel_rfl, by kernel_rfl⟩
theorem t3f9 (P : Params) : fnChk C3 (hd.heap_39 P) 35 = some fheappush := by kernel_rfl
theorem t3n10 (P : Params) : nsIn (hd.heap_39 P) mainGlobals ("heappop" : Str) = some (some (.ref 42)) ∧ keepIn (hd.heap_39 P) (.ref 42) = true := ⟨by kernel_rfl, by kernel_rfl⟩
theorem t3f10 (P : Params) : fnChk C3 (hd.heap_39 P) 42 = some fheappop := by kernel_rfl
theorem t3n11 (P : Params) : nsIn (hd.heap_39 P) mainGlobals ("_siftdown" : Str) = some (some (.ref 49)) ∧ keepIn (hd.heap_39 P) (.ref 49) = true := ⟨by kernel_rfl, by kernel_rfl⟩
theorem t3f11 (P : Params) : fnChk C3 (hd.heap_39 P) 49 = some fsiftdown := by kernel_rfl
theorem t3n12 (P : Params) : nsIn (hd.heap_39 P) mainGlobals ("_siftup" : Str) = some (some (.ref 56)) ∧ keepIn (hd.heap_39 P) (.ref 56) = true := ⟨by kernel_rfl, by kernel_rfl⟩
theorem t3f12 (P : Params) : fnChk C3 (hd.heap_39 P) 56 = some fsiftup := by kernel_rfl
theorem t3m0 (P : Params) : findIn (hd.heap_39 P) (.ref 118) ("longest_run_of_spaces" : Str) = some (some (.ref 80)) ∧ isFn (hd.heap_39 P) (.ref 80) = true ∧ plainGet (hd.heap_39 P) 118 ("longest_run_of_spaces" : Str) = true ∧ keepIn (hd.heap_39 P) (.ref 80) = true := ⟨by kernel_rfl, by kernel_rfl, by kernel_rfl, by kernel_rfl⟩
theorem t3a0 : ∀ k, k < 5 → (attrName k == ("longest_run_of_spaces" : Str)) = false := by decide +kernel
theorem t3g0 (P : Params) : fnChk C3 (hd.heap_39 P) 80 = some flongestrunofspaces := by kernel_rfl
theorem t3m1 (P : Params) : findIn (hd.heap_39 P) (.ref 118) ("indent_level" : Str) = some (some (.ref 87)) ∧ isFn (hd.heap_39 P) (.ref 87) = true ∧ plainGet (hd.heap_39 P) 118 ("indent_level" : Str) = true ∧ keepIn (hd.heap_39 P) (.ref 87) = true := ⟨by kernel_rfl, by kernel_rfl, by kernel_rfl, by kernel_rfl⟩
theorem t3a1 : ∀ k, k < 5 → (attrName k == ("indent_level" : Str)) = false := by decide +kernel
theorem t3g1 (P : Params) : fnChk C3 (hd.heap_39 P) 87 = some findentlevel := by kernel_rfl
theorem t3m2 (P : Params) : findIn (hd.heap_39 P) (.ref 118) ("not_equal_witness" : Str) = some (some (.ref 101)) ∧ isFn (hd.heap_39 P) (.ref 101) = true ∧ plainGet (hd.heap_39 P) 118 ("not_equal_witness" : Str) = true ∧ keepIn (hd.heap_39 P) (.ref 101) = true := ⟨by kernel_rfl, by kernel_rfl, by kernel_rfl, by kernel_rfl⟩
theorem t3a2 : ∀ k, k < 5 → (attrName k == ("not_equal_witness" : Str)) = false := by decide +kernel
theorem t3g2 (P : Params) : fnChk C3 (hd.heap_39 P) 101 = some fnotequalwitness := by kernel_rfl
theorem t3law (P : Params) : fnChk C3 (hd.heap_39 P) 177 = some flaw := by kernel_rfl
theorem t3init (P : Params) : fnChk C3 (hd.heap_39 P) 73 = some finit := by kernel_rfl
theorem t3cls (P : Params) : nsIn (hd.heap_39 P) mainGlobals ("Whitespace" : Str) = some (some (.ref 118)) ∧ keepIn (hd.heap_39 P) (.ref 118) = true ∧ makesIn (hd.heap_39 P) 118 = true ∧ findIn (hd.heap_39 P) (.ref 118) "__init__" = some (some (.ref 73)) ∧ typeIn (hd.heap_39 P) (.ref 73) = some (.type "function") := ⟨by kernel_rfl, by kernel_rfl, by kernel_rfl, by kernel_rfl, by kernel_rfl⟩
end Ev
end
section
set_option maxRecDepth 100000
set_option autoImplicit false
set_option linter.all false
namespace Ev
open PySem PySem.W PySem.Calls PyProof.Rows PySem.SeqAt

noncomputable abbrev K3 (P : Params) : Frag := hd.heap_39 P
theorem biFree3 (P : Params) : ∀ b, nsIn (K3 P) mainGlobals (biName b) = some none := by
  intro b; cases b <;> kernel_rfl
theorem dict3 (P : Params) : hasDictIn (K3 P) 118 = true := by kernel_rfl
theorem attr3_0 (P : Params) : plainGet (K3 P) 118 (attrName 0) = true ∧ findIn (K3 P) (.ref 118) (attrName 0) = some none ∧ takerIn (K3 P) 118 (attrName 0) = some none := ⟨by kernel_rfl, by kernel_rfl, by kernel_rfl⟩
theorem attr3_1 (P : Params) : plainGet (K3 P) 118 (attrName 1) = true ∧ findIn (K3 P) (.ref 118) (attrName 1) = some none ∧ takerIn (K3 P) 118 (attrName 1) = some none := ⟨by kernel_rfl, by kernel_rfl, by kernel_rfl⟩
theorem attr3_2 (P : Params) : plainGet (K3 P) 118 (attrName 2) = true ∧ findIn (K3 P) (.ref 118) (attrName 2) = some none ∧ takerIn (K3 P) 118 (attrName 2) = some none := ⟨by kernel_rfl, by kernel_rfl, by kernel_rfl⟩
theorem attr3_3 (P : Params) : plainGet (K3 P) 118 (attrName 3) = true ∧ findIn (K3 P) (.ref 118) (attrName 3) = some none ∧ takerIn (K3 P) 118 (attrName 3) = some none := ⟨by kernel_rfl, by kernel_rfl, by kernel_rfl⟩
theorem attr3_4 (P : Params) : plainGet (K3 P) 118 (attrName 4) = true ∧ findIn (K3 P) (.ref 118) (attrName 4) = some none ∧ takerIn (K3 P) 118 (attrName 4) = some none := ⟨by kernel_rfl, by kernel_rfl, by kernel_rfl⟩
theorem attr3 (P : Params) : ∀ k, k < 5 → plainGet (K3 P) 118 (attrName k) = true ∧ findIn (K3 P) (.ref 118) (attrName k) = some none ∧ takerIn (K3 P) 118 (attrName k) = some none
  | 0, _ => attr3_0 P
  | 1, _ => attr3_1 P
  | 2, _ => attr3_2 P
  | 3, _ => attr3_3 P
  | 4, _ => attr3_4 P
  | _ + 5, h => absurd h (by omega)
theorem set3 (P : Params) : findIn (K3 P) (.ref 118) "__setattr__" = some (some (.builtin "object.__setattr__")) ∧ plainOver (K3 P) 118 = true := ⟨by kernel_rfl, by kernel_rfl⟩
theorem booked3 (P : Params) : nsIn (K3 P) cStatics PySem.sharingNotToldKey = some none := by kernel_rfl
theorem reads3 (P : Params) : readsIn (K3 P) 118 (.type "type") = true := by kernel_rfl
def clsStr (K : Frag) (C : Addr) (y : Str) (x : List Nat) : Bool := match findCls K (.ref C) (.type "type") y with
  | some (.val (.str z _)) => z.cps.toList == x
  | _ => false
theorem clsStr_of {K : Frag} {C : Addr} {y : Str} {x : List Nat} (h : clsStr K C y x = true) : ∃ t, findCls K (.ref C) (.type "type") y = some (.val (.str ⟨x.toArray⟩ t)) := by
  unfold clsStr at h
  split at h
  · rename_i z t e
    have : z.cps.toList = x := eq_of_beq h
    subst this
    exact ⟨t, by rw [e]⟩
  · cases h
theorem catS3 (P : Params) : clsStr (K3 P) 118 ("S" : Str) [32] = true := by kernel_rfl
theorem catT3 (P : Params) : clsStr (K3 P) 118 ("T" : Str) [9] = true := by kernel_rfl

theorem ns_none {K : Frag} {h : Heap} {a : Addr} {m : Str → Option Value} {n : Str} (X : K.In h) (G : h.Ns a m) (e : nsIn K a n = some none) : m n = none := by
  obtain ⟨o, es, ep, ho, hd, _, hf⟩ := G
  unfold nsIn at e
  split at e
  · rename_i c d es' n' sl q
    have := X _ _ q
    rw [ho] at this
    cases this
    cases hd
    split at e
    · cases e
    · rename_i he
      rw [← hf]
      unfold nsFind findBy
      rw [← Array.find?_toList, he]
      rfl
  · cases e

/-- the class attribute, read as written -/
theorem catOf {c : Cx} {C : Cc} (Z : Bas c) (hn : nsIn c.K mainGlobals C.cls = some (some (.ref c.C))) (hr : readsIn c.K c.C (.type "type") = true) (h : ∀ y x, C.cattrs.lookup y = some x → clsStr c.K c.C y x = true) : CatOk c C := by
  intro nm X env fa A vars σ x p y pos t hg hx hl F ρ s Q Ex w post
  have hx' : x = C.cls := eq_of_beq hx
  subst hx'
  obtain ⟨hgl, hdb⟩ := isGlob_lookup hg
  obtain ⟨tk, hf⟩ := clsStr_of (h y t hl)
  have he : eval (.Attribute (.Name C.cls p) y pos) env = (do
      let o ← attributeBase (.Name C.cls p) y env (eval (.Name C.cls p) env)
      standAt pos.atName
      let r ← holding [o] (getAttr o y true)
      letTemporaryGo (.Name C.cls p) o r
      pure r) := rfl
  rw [he, attrBase rfl]
  refine wpAny_bind (w.f.global Z w.g hgl hn hdb (wpAny_bind (wpAny_standAt (wpAny_bind (wpAny_holding ?_)))))
  refine cls_value (w.g.K Z) hr hf rfl ?_
  refine wpAny_bind (wpAny_letTemporaryGo (wpAny_pure ?_))
  exact post F ρ _ _ PLe.rfl (List.prefix_refl _) (w.keep .tok) (.str _ _)

noncomputable def cx3 (w : World) (s : Shared) (pos : Bool) : Cx := { prog := PySem.Challenge.rw_pg0205_03.row.prog, w := w, K := K3 w.params, B := s.heap, S0 := s, C := 118, pos := pos }

theorem tblOk3 {w : World} {s : Shared} {pos : Bool} {mg mb : Str → Option Value} {loose : List Str} {p : Program} {mean : ExcName → Option Value} (KX : (K3 w.params).In s.heap) (T : Top p loose mean mg mb s.heap) : TblOk (cx3 w s pos) C3 T3 := by
  have Z : Bas (cx3 w s pos) := ⟨KX, ⟨mg, T.g⟩, ⟨mb, T.b, T.builtins⟩, T.nolimit⟩
  refine { Z := Z, N := biFree3 _, cls := ⟨dict3 _, fun k hk => ⟨(attr3 _ k hk).1, none, (attr3 _ k hk).2.1, rfl⟩⟩, cset := ⟨(set3 _).1, (set3 _).2, fun k hk => (attr3 _ k hk).2.2⟩, nb := ?_, cat := catOf Z (t3cls _).1 (reads3 _) ?_, fn := ?_, mu := ?_, me := ?_, nw := ⟨(t3cls _).1, (t3cls _).2.1, 73, t3init _, (t3cls _).2.2.1, (t3cls _).2.2.2.1, (t3cls _).2.2.2.2⟩ }
  · obtain ⟨mc, hmc, _⟩ := T.nodigits
    exact ⟨mc, hmc, ns_none KX hmc (booked3 _)⟩
  · intro y x h
    have h' : List.lookup y [(("S" : Str), [32]), (("T" : Str), [9])] = some x := h
    rw [List.lookup_cons] at h'
    split at h'
    · rename_i q; cases h'; rw [eq_of_beq q]; exact catS3 _
    · rw [List.lookup_cons] at h'
      split at h'
      · rename_i q; cases h'; rw [eq_of_beq q]; exact catT3 _
      · cases h'
  · intro f x h
    match f, h with
    | 0, h => cases h; exact ⟨_, (t3n0 _).1, (t3n0 _).2, fun fn q => by cases q; exact t3f0 _⟩
    | 1, h => cases h; exact ⟨_, (t3n1 _).1, (t3n1 _).2, fun fn q => by cases q; exact t3f1 _⟩
    | 2, h => cases h; exact ⟨_, (t3n2 _).1, (t3n2 _).2, fun fn q => by cases q; exact t3f2 _⟩
    | 3, h => cases h; exact ⟨_, (t3n3 _).1, (t3n3 _).2, fun fn q => by cases q; exact t3f3 _⟩
    | 4, h => cases h; exact ⟨_, (t3n4 _).1, (t3n4 _).2, fun fn q => by cases q; exact t3f4 _⟩
    | 5, h => cases h; exact ⟨_, (t3n5 _).1, (t3n5 _).2, fun fn q => by cases q; exact t3f5 _⟩
    | 6, h => cases h; exact ⟨_, (t3n6 _).1, (t3n6 _).2, fun fn q => by cases q; exact t3f6 _⟩
    | 7, h => cases h; exact ⟨_, (t3n7 _).1, (t3n7 _).2, fun fn q => by cases q; exact t3f7 _⟩
    | 8, h => cases h; exact ⟨_, (t3n8 _).1, (t3n8 _).2, fun fn q => by cases q; exact t3f8 _⟩
    | n + 9, h => cases h
  · intro f x h
    match f, h with
    | 0, h => cases h; exact ⟨_, (t3n9 _).1, (t3n9 _).2, fun fn q => by cases q; exact t3f9 _⟩
    | 1, h => cases h; exact ⟨_, (t3n10 _).1, (t3n10 _).2, fun fn q => by cases q; exact t3f10 _⟩
    | 2, h => cases h; exact ⟨_, (t3n11 _).1, (t3n11 _).2, fun fn q => by cases q; exact t3f11 _⟩
    | 3, h => cases h; exact ⟨_, (t3n12 _).1, (t3n12 _).2, fun fn q => by cases q; exact t3f12 _⟩
    | n + 4, h => cases h
  · intro f x h
    match f, h with
    | 0, h => cases h; exact ⟨_, (t3m0 _).1, (t3m0 _).2.1, (t3m0 _).2.2.1, t3a0, (t3m0 _).2.2.2, fun fn q => by cases q; exact t3g0 _⟩
    | 1, h => cases h; exact ⟨_, (t3m1 _).1, (t3m1 _).2.1, (t3m1 _).2.2.1, t3a1, (t3m1 _).2.2.2, fun fn q => by cases q; exact t3g1 _⟩
    | 2, h => cases h; exact ⟨_, (t3m2 _).1, (t3m2 _).2.1, (t3m2 _).2.2.1, t3a2, (t3m2 _).2.2.2, fun fn q => by cases q; exact t3g2 _⟩
    | n + 3, h => cases h
end Ev
end
section
set_option maxRecDepth 100000
set_option autoImplicit false
set_option linter.all false
set_option maxHeartbeats 8000000
namespace Ev
open PySem PySem.W PySem.Calls PyProof.Rows PySem.SeqAt

def locChk (K : Frag) (a : Addr) (i : Nat) : Bool := match K.lookup a with
  | some ⟨_, _, .func fd, _⟩ => (match fd.scope.names[i]? with | some (_, .local) => true | _ => false)
  | _ => false
theorem locChk_of {c : Cx} {C : Cc} {f : Addr} {fd : FuncData} {fn : Fn} {as : List Arg} {body : List Stmt} {i : Nat} (h : FnIn c C f fd fn as body) (e : locChk c.K f i = true) : ∃ x, fd.scope.names[i]? = some (x, .local) := by
  obtain ⟨oc, od, sl, ho⟩ := h.at_
  unfold locChk at e
  rw [ho] at e
  dsimp only at e
  split at e
  · rename_i x q; exact ⟨x, q⟩
  · cases e

/-- all that stands is frozen -/
def allF (h : Heap) : FM := ⟨fun a => h.get? a, fun _ => none⟩
theorem startG {c : Cx} {s : Shared} (hB : c.B = s.heap) (hS : c.S0 = s) (hp : c.pos = false) : G c (allF s.heap) (fun _ => none) [] [] [] s where
  f := fun a o e => e
  x := fun a o e => by cases e
  fx := fun a o e => rfl
  base := fun a o e => by rw [hB] at e; exact e
  apart := fun t _ a _ _ h => (noTag h).elim
  own := fun t a _ h => (noTag h).elim
  objs := fun l m e => by simp at e
  len := rfl
  gens := by rw [hS]
  tpos := fun h => by rw [hp] at h; cases h
  ft := fun t x e => by cases e
  os := by rw [hS]
theorem argInts {C : Addr} {F : FM} {ρ : List (List Addr)} {vs : List Value} {is : List Int} (h : IntsAre vs is) : Rvs C F ρ vs (is.map .int) := by
  induction h with
  | nil => exact .nil
  | cons => rename_i ih; exact .cons (.int _ _) ih
end Ev
end
section
set_option maxRecDepth 100000
set_option autoImplicit false
set_option linter.all false
set_option maxHeartbeats 8000000
namespace Ev
open PySem PySem.W PySem.Calls PyProof.Rows PySem.SeqAt

def e3 : E := match flaw.body with
  | .asg _ e :: _ => e
  | _ => .lit .none
def r3 : List S := flaw.body.tail
def Plain3 : Prop := ∀ zs : List Int, zs.length ≤ 63 → ∃ m1 m2 vars1 σ1 vars2 σ2, exS (lev T3 false false 6) (m1 + 1) (.asg [.var 1] e3) (startVars flaw [.lst (zs.map .int)]) [] = some (.next, vars1, σ1) ∧ exSs (lev T3 true false 6) m2 r3 vars1 σ1 = some (.ret (.bool true), vars2, σ2)
theorem loc3 (P : Params) : locChk (K3 P) 177 1 = true := by kernel_rfl
theorem nlaw3 (P : Params) : nsIn (K3 P) mainGlobals ("law" : Str) = some (some (.ref 177)) := by kernel_rfl
theorem goodCaller {n : Nat} (h : n ≤ 600) : Good n callerA := ⟨rfl, by show 1 + claimMargin + n < recursionLimit; have : claimMargin = 300 := rfl; have : recursionLimit = 1000 := rfl; omega, by show 4 + 10 * n + 100 < cLine; have : cLine = 9900 := rfl; omega⟩

theorem walk3 (plain : Plain3) {w : World} {s : Shared} {mg mb : Str → Option Value} {loose : List Str} {p : Program} {mean : ExcName → Option Value} {l : Addr} {vs : List Value} {zs : List Int} {fa : Addr} {Q : Value → Shared → Prop} {Ex : Value → Shared → Prop}
    (KX : (K3 w.params).In s.heap) (T : Top p loose mean mg mb s.heap) (hmg : mg ("law" : Str) = some (.ref fa)) (hL : s.heap.IsList l vs.toArray) (hI : IntsAre vs zs) (hlen : zs.length ≤ 63)
    (hQ : ∀ s', (∀ b o, s.heap.get? b = some o → s'.heap.get? b = some o) → s'.os = s.os → s'.gens = s.gens → Q (.bool true) s') : wpAny (model PySem.Challenge.rw_pg0205_03.row.prog w) callerA (call (.ref fa) [.ref l]) Q Ex s := by
  have hfa : fa = 177 := by
    have := mg_of KX T.g (nlaw3 w.params)
    rw [hmg] at this
    cases this; rfl
  subst hfa
  obtain ⟨m1, m2, vars1, σ1, vars2, σ2, e1, e2⟩ := plain zs hlen
  have H0 : TblOk (cx3 w s false) C3 T3 := tblOk3 KX T
  have H1 : TblOk (cx3 w s true) C3 T3 := tblOk3 KX T
  have D0 := lev_ok (hot := false) (srt := false) H0 (fun h => by cases h) (fun h => by cases h) 6
  have D1 : DlOk (cx3 w s false).warm C3 (lev T3 true false 6) (2 * 6) := lev_ok (c := (cx3 w s false).warm) (hot := true) (srt := false) H1 (fun _ => rfl) (fun h => by cases h) 6
  obtain ⟨fd, as, body, hin⟩ := fnIn_of (c := cx3 w s false) (t3law w.params)
  obtain ⟨o, ho, hc, n, hd⟩ := hL
  have hr : Rv (cx3 w s false).C (allF s.heap) [] (.ref l) (.lst (zs.map .int)) := .lst (n := n) ho hc hd (argInts hI)
  refine mainOf (c := cx3 w s false) (vs := [.ref l]) D0 D1 hin (show flaw.body = .asg [.var 1] e3 :: r3 from rfl) (fun a b t i f h => by cases h) (locChk_of hin (loc3 _)) rfl e1 e2 rfl (goodCaller (by decide)) (startG rfl rfl rfl) (.cons hr .nil) fun F' r s' le g' rr => ?_
  cases rr with
  | bool b => exact hQ s' (fun b o e => g'.f b o (le.o b o e)) g'.os g'.gens

theorem holds3 (plain : Plain3) : PySem.Challenge.rw_pg0205_03.Holds := hd (by
  k_fill
  intro w s₀ s₁ mg mb G Y fa o pm cd doc dV kV ho hd hcd hD hmg hg args vals as hpre hlay hrd hwl hlo
  have KX := kIn_of Y
  refine Ground.open G ?_
  intro T B D TE TW
  clear B D TE TW ho hd hcd hD
  wrow_args hpre hlay hrd hwl hlo
  rename_i hcond _
  refine walk3 plain KX T hmg (by assumption) (by assumption) (by omega) fun s' hk hos hgen => GoodW.toG ⟨.inl ⟨.bool true, ofPy (.bool true), [], rfl, ?_, readsW_of_reads (Reads.bool true), ?_, ?_⟩, hk, hos, hgen.trans hg⟩
  · intro cls; rfl
  · first | rfl | kernel_rfl
  · exact fun _ => ⟨List.nodup_nil, fun a h => by cases h⟩)
end Ev
end
section
set_option maxRecDepth 100000
set_option autoImplicit false
set_option linter.all false
set_option maxHeartbeats 8000000
namespace Ev
open PySem
def norm3 (s : Int × Int) : Int := s.1 * s.1 - s.1 * s.2 + s.2 * s.2
def turn3 (s : Int × Int) : Int × Int := (s.1 - s.2, s.1)
def cross3 (s t : Int × Int) : Int := s.1 * t.2 - s.2 * t.1
def side3 : List Int := [-4, -3, -2, -1, 0, 1, 2, 3, 4]
def spots3 : List (Int × Int) := (side3.flatMap fun a => side3.map fun b => (a, b)).filter fun s => decide (0 < norm3 s ∧ norm3 s ≤ 16)
def low3 (s : Int × Int) : Int := min (min s.1 s.2) 0
def ring3 (s : Int × Int) : Int := max (max s.1 s.2) 0 - low3 s
def place3 (s : Int × Int) : Int :=
  let l := low3 s
  let w := ring3 s
  let r := s.1 - l
  let g := s.2 - l
  let b := 0 - l
  if b = 0 then (if r ≥ g then g else 2 * w - r)
  else if r = 0 then (if g ≥ b then 2 * w + b else 4 * w - g)
  else (if b ≥ r then 4 * w + r else 6 * w - b)
def nm3 (s : Int × Int) : D := .tup [.int (-norm3 s), .int (ring3 s), .int (place3 s)]
def sp3 (s : Int × Int) : D := .lst [.int s.1, .int s.2]
abbrev c64 : UInt64 := 4634204016564240384
theorem name_ok {Δ Δ' : Dl} (hot : Δ.hot = true) (hot' : Δ'.hot = true) (h0 : ∀ ds, Δ.fns 0 ds = runP Δ' 200 frgbtohsv ds) {s : Int × Int} {g r p : Int} {h sh v : UInt64}
    (e1 : colV c64 (g - low3 s + s.1) (g - low3 s + s.2) (g - low3 s) = some (h, sh, v)) (e2 : ringV 64 sh v = some r) (e3 : placeV r h = some p) (e4 : r ≠ 0) (e5 : small r = true) (e6 : small (p.fmod r) = true) :
    runP Δ 200 flawname [sp3 s, .int g] = some (.tup [.int (p.fmod r * (r - p.fmod r) - r * r), .int r, .int p]) := by
  obtain ⟨x, y⟩ := s
  unfold colV at e1
  split at e1
  case isFalse => cases e1
  rename_i hb
  simp only [Bool.and_eq_true, Bool.not_eq_true'] at hb
  obtain ⟨⟨⟨b1, b2⟩, b3⟩, b4⟩ := hb
  have k := rgb_ok hot' e1
  unfold ringV at e2
  split at e2
  case isFalse => cases e2
  rename_i b5
  unfold placeV at e3
  split at e3
  case isFalse => cases e3
  rename_i b6
  have b7 : small 6 = true := rfl
  refine Rets.run ?_ rfl (by simp [D.pures, D.pure, sp3]) rfl
  refine .asg (x := .int (g - low3 (x, y))) (by simp [evE, evEs, evs, ress, startVars, flawname, sp3, idxD, small, min_ints3, low3]) rfl ?_
  dsimp only [List.set, startVars, List.map, flawname, List.replicate, List.cons_append, List.nil_append, List.append]
  refine .asgs (x := .tup [.flt h, .flt sh, .flt v]) ?_ rfl ?_
  · refine evE_call (ds := [.flt (Float64.div (Float64.ofInt (g - low3 (x, y) + x)) c64), .flt (Float64.div (Float64.ofInt (g - low3 (x, y) + y)) c64), .flt (Float64.div (Float64.ofInt (g - low3 (x, y))) c64)]) ?_ rfl ((h0 _).trans k)
    simp [evE, evEs, evs, sp3, idxD, small, binF, b1, b2, b3, b4, hot]
  dsimp only [List.set, startVars, List.map, flawname, List.replicate, List.cons_append, List.nil_append, List.append]
  refine .asg (x := .int r) (by simp [evE, evEs, evs, ress, binF, b5, hot, biD, e2]) rfl ?_
  refine .asg (x := .int p) (by simp [evE, evEs, evs, ress, binF, b6, b7, hot, biD, e3]) rfl ?_
  refine .asg (x := .int (p.fmod r)) (by simp [evE, evEs, evs, e4]) rfl ?_
  dsimp only [List.set]
  exact .ret (x := .tup [.int (p.fmod r * (r - p.fmod r) - r * r), .int r, .int p]) (by simp [evE, evEs, evs, e4, e5, e6, show 3 ≤ maxLen by decide]) rfl
/-- all that a name needs, reckoned -/
def nmV (s : Int × Int) (g : Int) : Bool := match colV c64 (g - low3 s + s.1) (g - low3 s + s.2) (g - low3 s) with
  | some (h, sh, v) => ringV 64 sh v == some (ring3 s) && placeV (ring3 s) h == some (place3 s)
  | none => false
def nmI (s : Int × Int) : Bool := decide (ring3 s ≠ 0) && small (ring3 s) && small ((place3 s).fmod (ring3 s)) && decide ((place3 s).fmod (ring3 s) * (ring3 s - (place3 s).fmod (ring3 s)) - ring3 s * ring3 s = -norm3 s)
theorem len3 : spots3.length = 60 := by decide +kernel
theorem names3 : (spots3.all fun s => nmI s && [0, 1, 2, 3].all fun g => nmV s g) = true := by decide +kernel
theorem nm_ok {Δ Δ' : Dl} (hot : Δ.hot = true) (hot' : Δ'.hot = true) (h0 : ∀ ds, Δ.fns 0 ds = runP Δ' 200 frgbtohsv ds) {s : Int × Int} {g : Int} (hs : s ∈ spots3) (hg : 0 ≤ g ∧ g < 4) : runP Δ 200 flawname [sp3 s, .int g] = some (nm3 s) := by
  have h := List.all_eq_true.mp names3 s hs
  simp only [Bool.and_eq_true, List.all_eq_true] at h
  have hg' : g ∈ [0, 1, 2, 3] := by simp; omega
  have h2 := h.2 g hg'
  have h1 := h.1
  unfold nmV at h2
  split at h2
  · rename_i hh sh v e1
    simp only [Bool.and_eq_true, beq_iff_eq] at h2
    simp only [nmI, Bool.and_eq_true, decide_eq_true_eq] at h1
    have := name_ok hot hot' h0 e1 h2.1 h2.2 h1.1.1.1 h1.1.1.2 h1.1.2
    rw [this, h1.2]; rfl
  · cases h2
end Ev
end
section
set_option maxRecDepth 100000
set_option autoImplicit false
set_option linter.all false
set_option maxHeartbeats 8000000
namespace Ev
open PySem
def corner3 (k : Int) : Int × Int := if k = 0 then (1, 0) else if k = 1 then (1, 1) else if k = 2 then (0, 1) else if k = 3 then (-1, 0) else if k = 4 then (-1, -1) else (0, -1)
def back3 (r p : Int) : Int × Int :=
  let a := corner3 ((p.fdiv r).fmod 6)
  let b := corner3 ((p.fdiv r + 1).fmod 6)
  let q := p.fmod r
  ((r - q) * a.1 + q * b.1, (r - q) * a.2 + q * b.2)
def cornersD : D := .lst [.tup [.int 1, .int 0], .tup [.int 1, .int 1], .tup [.int 0, .int 1], .tup [.int (-1), .int 0], .tup [.int (-1), .int (-1)], .tup [.int 0, .int (-1)]]
theorem corner_idx {k : Int} (h : 0 ≤ k ∧ k < 6) : idxD cornersD (.int k) = some (.tup [.int (corner3 k).1, .int (corner3 k).2]) := by
  have : k = 0 ∨ k = 1 ∨ k = 2 ∨ k = 3 ∨ k = 4 ∨ k = 5 := by omega
  rcases this with rfl | rfl | rfl | rfl | rfl | rfl <;> rfl
theorem fmod_range (a : Int) : 0 ≤ a.fmod 6 ∧ a.fmod 6 < 6 := ⟨Int.fmod_nonneg_of_pos _ (by decide), Int.fmod_lt_of_pos _ (by decide)⟩
theorem small_of {i : Int} (h : -1000000 ≤ i ∧ i ≤ 1000000) : small i = true := by simp [small]; omega
theorem sml : small 0 = true ∧ small 1 = true ∧ small 2 = true ∧ small 3 = true ∧ small 4 = true ∧ small 5 = true ∧ small 6 = true := by decide
theorem back_ok {Δ : Dl} {r p : Int} (hr : 1 ≤ r ∧ r ≤ 1000000) : runP Δ 200 flawback [.int r, .int p] = some (sp3 (back3 r p)) := by
  have e0 : ¬ r = 0 := by omega
  have hq : 0 ≤ p.fmod r ∧ p.fmod r < r := ⟨Int.fmod_nonneg_of_pos _ (by omega), Int.fmod_lt_of_pos _ (by omega)⟩
  have e1 : small r = true := small_of (by omega)
  have e2 : small (p.fmod r) = true := small_of (by omega)
  have e3 : small (r - p.fmod r) = true := small_of (by omega)
  refine Rets.run ?_ rfl rfl rfl
  show Rets Δ 200 flawback.body [some (.int r), some (.int p), none, none, none, none, none, none, none] [] _
  refine .asg (x := cornersD) rfl rfl ?_
  refine .asgs (x := .tup [.int (p.fdiv r), .int (p.fmod r)]) (by simp [evE, evEs, evs, ress, biD, e0, e1]) rfl ?_
  dsimp only [List.set, startVars, List.map, flawback, List.replicate, List.cons_append, List.nil_append, List.append]
  have c1 := corner_idx (fmod_range (p.fdiv r))
  have c2 := corner_idx (fmod_range (p.fdiv r + 1))
  have hc : ∀ σ, res σ cornersD = some cornersD := fun _ => rfl
  refine .asg (x := .tup [.int (corner3 ((p.fdiv r).fmod 6)).1, .int (corner3 ((p.fdiv r).fmod 6)).2]) (by simp [evE, evEs, evs, hc, c1]) rfl ?_
  refine .asg (x := .tup [.int (corner3 ((p.fdiv r + 1).fmod 6)).1, .int (corner3 ((p.fdiv r + 1).fmod 6)).2]) (by simp [evE, evEs, evs, hc, c2]) rfl ?_
  dsimp only [List.set]
  refine .ret (x := sp3 (back3 r p)) ?_ rfl
  refine evE_comp (ds := [.int 0, .int 1]) rfl rfl (by decide) ?_
  simp [capture, compD, asgT, setVar, evE, tesE, evs, e2, e3, idxD, sml, back3]
end Ev
end
section
set_option maxRecDepth 100000
set_option autoImplicit false
set_option linter.all false
set_option maxHeartbeats 8000000
namespace Ev
open PySem
def turnN : Nat → Int × Int → Int × Int
  | 0, s => s
  | k + 1, s => turnN k (turn3 s)
def sixths3 (s t : Int × Int) : Int := (2 * (place3 s * ring3 t - place3 t * ring3 s) + ring3 s * ring3 t).fdiv (2 * ring3 s * ring3 t)
def near3 (s t : Int × Int) : Int × Int := back3 (ring3 t) (place3 t + sixths3 s t * ring3 t)
def rest3 (s t : Int × Int) : Int × Int := (s.1 - (near3 s t).1, s.2 - (near3 s t).2)
def isSpot (s : Int × Int) : Bool := decide (-4 ≤ s.1) && decide (s.1 ≤ 4) && decide (-4 ≤ s.2) && decide (s.2 ≤ 4) && decide (0 < norm3 s) && decide (norm3 s ≤ 16)
theorem isSpot_mem {s : Int × Int} : isSpot s = true ↔ s ∈ spots3 := by
  obtain ⟨x, y⟩ := s
  simp only [isSpot, spots3, List.mem_filter, List.mem_flatMap, List.mem_map, Bool.and_eq_true, decide_eq_true_eq]
  constructor
  · intro h
    refine ⟨⟨x, ?_, y, ?_, rfl⟩, by omega⟩ <;> simp [side3] <;> omega
  · rintro ⟨⟨a, ha, b, hb, e⟩, h⟩
    cases e
    simp [side3] at ha hb
    omega
def pairOk (s t : Int × Int) : Bool := !decide (norm3 t ≤ norm3 s) || (((List.range 6).any fun k => near3 s t == turnN k t) && (rest3 s t == (0, 0) || (isSpot (rest3 s t) && decide (norm3 (rest3 s t) < norm3 s))))
def geoOk (s : Int × Int) : Bool := back3 (ring3 s) (place3 s) == s && decide (1 ≤ ring3 s) && decide (ring3 s ≤ 4) && decide (0 ≤ place3 s) && decide (place3 s ≤ 24)
theorem pairs3 : (spots3.all fun s => spots3.all fun t => pairOk s t) = true := by decide +kernel
theorem geo3 : (spots3.all fun s => geoOk s) = true := by decide +kernel
theorem pair_ok {s t : Int × Int} (hs : s ∈ spots3) (ht : t ∈ spots3) (h : norm3 t ≤ norm3 s) : (∃ k, near3 s t = turnN k t) ∧ (rest3 s t = (0, 0) ∨ (rest3 s t ∈ spots3 ∧ norm3 (rest3 s t) < norm3 s)) := by
  have := List.all_eq_true.mp (List.all_eq_true.mp pairs3 s hs) t ht
  simp only [pairOk, h, decide_true, Bool.not_true, Bool.false_or, Bool.and_eq_true, Bool.or_eq_true, decide_eq_true_eq, beq_iff_eq, List.any_eq_true, isSpot_mem] at this
  obtain ⟨⟨k, _, h1⟩, h2⟩ := this
  exact ⟨⟨k, h1⟩, h2⟩
theorem geo_ok {s : Int × Int} (hs : s ∈ spots3) : back3 (ring3 s) (place3 s) = s ∧ 1 ≤ ring3 s ∧ ring3 s ≤ 4 ∧ 0 ≤ place3 s ∧ place3 s ≤ 24 := by
  have := List.all_eq_true.mp geo3 s hs
  simp only [geoOk, Bool.and_eq_true, decide_eq_true_eq, beq_iff_eq] at this
  exact ⟨this.1.1.1.1, this.1.1.1.2, this.1.1.2, this.1.2, this.2⟩
/-- a code's spot -/
def spotOf (c : Int) : Int × Int := turnN (((c.fdiv 20).fmod 6).toNat) (1 + c.fmod 4, (c.fdiv 4).fmod 5)
def isSp (s : Int × Int) : Option D → Bool
  | some (.lst [.int x, .int y]) => x == s.1 && y == s.2
  | _ => false
theorem isSp_of {s : Int × Int} {o : Option D} (h : isSp s o = true) : o = some (sp3 s) := by
  unfold isSp at h
  split at h
  · simp at h; rw [h.1, h.2]; rfl
  · cases h
theorem codes3 (j : Nat) : ((intsFrom 0 120).all fun c => isSp (spotOf c) (runP (lev T3 true false (j + 2)) 200 flawspot [.int c]) && isSpot (spotOf c)) = true := by kernel_rfl
theorem code_ok (j : Nat) (c : Int) : ∃ s, s ∈ spots3 ∧ runP (lev T3 true false (j + 2)) 200 flawspot [.int (c.fmod 120)] = some (sp3 s) := by
  have hm : c.fmod 120 ∈ intsFrom 0 120 := mem_intsFrom.mpr ⟨Int.fmod_nonneg_of_pos _ (by decide), by have := Int.fmod_lt_of_pos c (show (0 : Int) < 120 by decide); omega⟩
  have := List.all_eq_true.mp (codes3 j) _ hm
  simp only [Bool.and_eq_true, isSpot_mem] at this
  exact ⟨_, this.2, isSp_of this.1⟩
end Ev
end
section
set_option maxRecDepth 100000
set_option autoImplicit false
set_option linter.all false
set_option maxHeartbeats 8000000
namespace Ev
open PySem
/-! what stays as the spots are taken from each other -/
def sub3 (a b : Int × Int) : Int × Int := (a.1 - b.1, a.2 - b.2)
structure Idl (C : Int × Int → Prop) : Prop where
  sub : ∀ a b, C a → C b → C (sub3 a b)
  turn : ∀ a, C a → C (turn3 a)
def SameI (h h' : List (Int × Int)) : Prop := ∀ C, Idl C → ((∀ s ∈ h, C s) ↔ (∀ s ∈ h', C s))
theorem Idl.turnN {C : Int × Int → Prop} (i : Idl C) : ∀ (k : Nat) {a : Int × Int}, C a → C (turnN k a)
  | 0, _, h => h
  | k + 1, a, h => i.turnN k (i.turn a h)
theorem Idl.add {C : Int × Int → Prop} (i : Idl C) {a b c : Int × Int} (ha : C (sub3 a b)) (hb : C b) : C a := by
  have h3 : C (turn3 (turn3 (turn3 b))) := i.turn _ (i.turn _ (i.turn _ hb))
  have := i.sub _ _ ha h3
  have e : sub3 (sub3 a b) (turn3 (turn3 (turn3 b))) = a := by
    obtain ⟨x, y⟩ := a; obtain ⟨u, v⟩ := b
    simp only [sub3, turn3, Prod.mk.injEq]; omega
  rwa [e] at this
theorem Idl.rest {C : Int × Int → Prop} (i : Idl C) {a b : Int × Int} (hs : a ∈ spots3) (ht : b ∈ spots3) (h : norm3 b ≤ norm3 a) (cb : C b) : C (rest3 a b) ↔ C a := by
  obtain ⟨⟨k, hk⟩, _⟩ := pair_ok hs ht h
  have hn : C (near3 a b) := by rw [hk]; exact i.turnN k cb
  exact ⟨fun q => i.add (c := a) q hn, fun q => i.sub _ _ q hn⟩
theorem Idl.zero {C : Int × Int → Prop} (i : Idl C) {b : Int × Int} (cb : C b) : C (0, 0) := by
  have := i.sub _ _ cb cb
  have e : sub3 b b = (0, 0) := by simp [sub3]
  rwa [e] at this
theorem ltD_nm (s t : Int × Int) : ∃ b, ltD (nm3 s) (nm3 t) = some b ∧ (b = true → norm3 t ≤ norm3 s) ∧ (b = false → norm3 s ≤ norm3 t) := by
  simp only [nm3, ltD, ltDs, eqD]
  by_cases h : norm3 s = norm3 t
  · have hb : (-norm3 s == -norm3 t) = true := by simp [h]
    simp only [hb]
    cases (ring3 s == ring3 t) <;> cases (place3 s == place3 t) <;> exact ⟨_, rfl, fun _ => by omega, fun _ => by omega⟩
  · have hb : (-norm3 s == -norm3 t) = false := by simp; omega
    simp only [hb]
    exact ⟨_, rfl, by simp; omega, by simp⟩
/-- the spots in the heap: the greatest ahead -/
structure HP (h : List (Int × Int)) : Prop where
  mem : ∀ s ∈ h, s ∈ spots3
  top : ∀ a r, h = a :: r → ∀ s ∈ r, norm3 s ≤ norm3 a
def msum : List (Int × Int) → Nat
  | [] => 0
  | s :: r => (norm3 s).toNat + msum r
theorem norm_pos {s : Int × Int} (h : s ∈ spots3) : 0 < norm3 s ∧ norm3 s ≤ 16 := by
  have := isSpot_mem.mpr h
  simp only [isSpot, Bool.and_eq_true, decide_eq_true_eq] at this
  omega
theorem nm_pure (s : Int × Int) : (nm3 s).pure = true := rfl
theorem nm_dep (s : Int × Int) : (nm3 s).dep ≤ 50 := by simp [nm3, D.dep, D.deps]
theorem nms_pure (h : List (Int × Int)) : D.pures (h.map nm3) = true := pures_map nm3 (fun _ => rfl) h
end Ev
end
section
set_option maxRecDepth 100000
set_option autoImplicit false
set_option linter.all false
set_option maxHeartbeats 8000000
namespace Ev
open PySem
def cBody : List S := [.asg [(.tup [4, 5, 6])] (.mcall 1 (.var 2) []), .asg [(.tup [7, 8, 9])] (.idx (.var 2) (.lit (.int 0))), .asg [(.var 10)] (.bin .FloorDiv (.bin .Add (.bin .Mult (.lit (.int 2)) (.bin .Sub (.bin .Mult (.var 6) (.var 8)) (.bin .Mult (.var 9) (.var 5)))) (.bin .Mult (.var 5) (.var 8))) (.bin .Mult (.bin .Mult (.lit (.int 2)) (.var 5)) (.var 8))), .asg [(.var 11)] (.call 5 [(.var 5), (.var 6)]), .asg [(.var 12)] (.call 5 [(.var 8), (.bin .Add (.var 9) (.bin .Mult (.var 10) (.var 8)))]), .asg [(.var 13)] (.lst [(.bin .Sub (.idx (.var 11) (.lit (.int 0))) (.idx (.var 12) (.lit (.int 0)))), (.bin .Sub (.idx (.var 11) (.lit (.int 1))) (.idx (.var 12) (.lit (.int 1))))]), .ite (.cmp .NotEq (.var 13) (.lst [(.lit (.int 0)), (.lit (.int 0))])) [.expr (.mcall 0 (.var 2) [(.call 4 [(.var 13), (.var 1)])])] []]
/-- the vars of _law_common -/
abbrev cv (v0 : Option D) (g : Int) (v3 x4 x5 x6 x7 x8 x9 x10 x11 x12 x13 x14 x15 x16 x17 x18 : Option D) : Vars := [v0, some (.int g), some (.loc 0), v3, x4, x5, x6, x7, x8, x9, x10, x11, x12, x13, x14, x15, x16, x17, x18]
def CV (v0 : Option D) (g : Int) (v : Vars) : Prop := ∃ v3 x4 x5 x6 x7 x8 x9 x10 x11 x12 x13 x14 x15 x16 x17 x18, v = cv v0 g v3 x4 x5 x6 x7 x8 x9 x10 x11 x12 x13 x14 x15 x16 x17 x18
theorem evE_mcall {Δ : Dl} {n f l : Nat} {o : E} {es : List E} {vars : Vars} {σ σ' σ2 : Sto} {xs ys ds : List D} {d : D} (h : evE Δ n o vars σ = some (.loc l, σ')) (h2 : evEs Δ n es vars σ' = some (ds, σ2)) (hl : σ2[l]? = some (some (.lst xs))) (pd : D.pures ds = true) (px : D.pures xs = true) (hf : Δ.muts f xs ds = some (d, ys)) : evE Δ (n + 1) (.mcall f o es) vars σ = some (d, σ2.set l (some (.lst ys))) := by
  simp only [evE, h, Option.bind_some, h2, hl, pd, px, Bool.and_self, if_true, hf]
theorem turn_ok {Δ : Dl} {a b : Int × Int} {xs zs ws : List D} {g : Int} {v0 : Option D} {v : Vars} (hv : CV v0 g v) (ha : a ∈ spots3) (hb : b ∈ spots3) (hab : norm3 b ≤ norm3 a) (px : D.pures xs = true) (pz : D.pures zs = true)
    (hback : ∀ r p, 1 ≤ r ∧ r ≤ 1000000 → Δ.fns 5 [.int r, .int p] = some (sp3 (back3 r p))) (hname : ∀ s, s ∈ spots3 → Δ.fns 4 [sp3 s, .int g] = some (nm3 s))
    (hpop : Δ.muts 1 xs [] = some (nm3 a, nm3 b :: zs)) (hw : rest3 a b = (0, 0) ∧ ws = nm3 b :: zs ∨ rest3 a b ∈ spots3 ∧ Δ.muts 0 (nm3 b :: zs) [nm3 (rest3 a b)] = some (.none, ws)) :
    ∃ v', CV v0 g v' ∧ exSs Δ 196 cBody v [some (.lst xs)] = some (.next, v', [some (.lst ws)]) := by
  obtain ⟨v3, x4, x5, x6, x7, x8, x9, x10, x11, x12, x13, x14, x15, x16, x17, x18, rfl⟩ := hv
  obtain ⟨ga1, ga2, ga3, ga4, ga5⟩ := geo_ok ha
  obtain ⟨gb1, gb2, gb3, gb4, gb5⟩ := geo_ok hb
  have ma : small (ring3 a) = true := small_of (by omega)
  have mb : small (ring3 b) = true := small_of (by omega)
  have m1 : small (place3 a) = true := small_of (by omega)
  have m2 : small (place3 b) = true := small_of (by omega)
  have hpos : 0 < 2 * ring3 a * ring3 b := Int.mul_pos (by omega) (by omega)
  have hle : 2 * ring3 a * ring3 b ≤ 32 := by
    have : 2 * ring3 a * ring3 b ≤ 8 * 4 := Int.mul_le_mul (by omega) gb3 (by omega) (by omega)
    omega
  have m3 : small (2 * ring3 a * ring3 b) = true := small_of (by omega)
  have n3 : ¬ (2 * ring3 a * ring3 b = 0) := by omega
  have s1 : exS Δ 195 (.asg [(.tup [4, 5, 6])] (.mcall 1 (.var 2) [])) (cv v0 g v3 x4 x5 x6 x7 x8 x9 x10 x11 x12 x13 x14 x15 x16 x17 x18) [some (.lst xs)] = some (.next, cv v0 g v3 (some (.int (-norm3 a))) (some (.int (ring3 a))) (some (.int (place3 a))) x7 x8 x9 x10 x11 x12 x13 x14 x15 x16 x17 x18, [some (.lst (nm3 b :: zs))]) :=
    exS_asgs (evE_mcall (l := 0) (σ' := [some (.lst xs)]) (σ2 := [some (.lst xs)]) (xs := xs) (ds := []) rfl rfl rfl rfl px hpop) rfl
  have s2 : exS Δ 194 (.asg [(.tup [7, 8, 9])] (.idx (.var 2) (.lit (.int 0)))) (cv v0 g v3 (some (.int (-norm3 a))) (some (.int (ring3 a))) (some (.int (place3 a))) x7 x8 x9 x10 x11 x12 x13 x14 x15 x16 x17 x18) [some (.lst (nm3 b :: zs))] = some (.next, cv v0 g v3 (some (.int (-norm3 a))) (some (.int (ring3 a))) (some (.int (place3 a))) (some (.int (-norm3 b))) (some (.int (ring3 b))) (some (.int (place3 b))) x10 x11 x12 x13 x14 x15 x16 x17 x18, [some (.lst (nm3 b :: zs))]) :=
    exS_asgs (d := nm3 b) rfl rfl
  have s3 : exS Δ 193 (.asg [(.var 10)] (.bin .FloorDiv (.bin .Add (.bin .Mult (.lit (.int 2)) (.bin .Sub (.bin .Mult (.var 6) (.var 8)) (.bin .Mult (.var 9) (.var 5)))) (.bin .Mult (.var 5) (.var 8))) (.bin .Mult (.bin .Mult (.lit (.int 2)) (.var 5)) (.var 8)))) (cv v0 g v3 (some (.int (-norm3 a))) (some (.int (ring3 a))) (some (.int (place3 a))) (some (.int (-norm3 b))) (some (.int (ring3 b))) (some (.int (place3 b))) x10 x11 x12 x13 x14 x15 x16 x17 x18) [some (.lst (nm3 b :: zs))] = some (.next, cv v0 g v3 (some (.int (-norm3 a))) (some (.int (ring3 a))) (some (.int (place3 a))) (some (.int (-norm3 b))) (some (.int (ring3 b))) (some (.int (place3 b))) (some (.int (sixths3 a b))) x11 x12 x13 x14 x15 x16 x17 x18, [some (.lst (nm3 b :: zs))]) :=
    exS_asg1 (d := .int (sixths3 a b)) (by simp [evE, evs, sml, ma, mb, m1, m2, m3, n3, sixths3]) rfl
  have s4 : exS Δ 192 (.asg [(.var 11)] (.call 5 [(.var 5), (.var 6)])) (cv v0 g v3 (some (.int (-norm3 a))) (some (.int (ring3 a))) (some (.int (place3 a))) (some (.int (-norm3 b))) (some (.int (ring3 b))) (some (.int (place3 b))) (some (.int (sixths3 a b))) x11 x12 x13 x14 x15 x16 x17 x18) [some (.lst (nm3 b :: zs))] = some (.next, cv v0 g v3 (some (.int (-norm3 a))) (some (.int (ring3 a))) (some (.int (place3 a))) (some (.int (-norm3 b))) (some (.int (ring3 b))) (some (.int (place3 b))) (some (.int (sixths3 a b))) (some (sp3 a)) x12 x13 x14 x15 x16 x17 x18, [some (.lst (nm3 b :: zs))]) :=
    exS_asg1 (d := sp3 a) (evE_call (ds := [.int (ring3 a), .int (place3 a)]) rfl rfl ((hback _ _ (by omega)).trans (by rw [ga1]))) rfl
  have s5 : exS Δ 191 (.asg [(.var 12)] (.call 5 [(.var 8), (.bin .Add (.var 9) (.bin .Mult (.var 10) (.var 8)))])) (cv v0 g v3 (some (.int (-norm3 a))) (some (.int (ring3 a))) (some (.int (place3 a))) (some (.int (-norm3 b))) (some (.int (ring3 b))) (some (.int (place3 b))) (some (.int (sixths3 a b))) (some (sp3 a)) x12 x13 x14 x15 x16 x17 x18) [some (.lst (nm3 b :: zs))] = some (.next, cv v0 g v3 (some (.int (-norm3 a))) (some (.int (ring3 a))) (some (.int (place3 a))) (some (.int (-norm3 b))) (some (.int (ring3 b))) (some (.int (place3 b))) (some (.int (sixths3 a b))) (some (sp3 a)) (some (sp3 (near3 a b))) x13 x14 x15 x16 x17 x18, [some (.lst (nm3 b :: zs))]) :=
    exS_asg1 (d := sp3 (near3 a b)) (evE_call (ds := [.int (ring3 b), .int (place3 b + sixths3 a b * ring3 b)]) (by simp [evEs, evE, evs, mb]) rfl (hback _ _ (by omega))) rfl
  have s6 : exS Δ 190 (.asg [(.var 13)] (.lst [(.bin .Sub (.idx (.var 11) (.lit (.int 0))) (.idx (.var 12) (.lit (.int 0)))), (.bin .Sub (.idx (.var 11) (.lit (.int 1))) (.idx (.var 12) (.lit (.int 1))))])) (cv v0 g v3 (some (.int (-norm3 a))) (some (.int (ring3 a))) (some (.int (place3 a))) (some (.int (-norm3 b))) (some (.int (ring3 b))) (some (.int (place3 b))) (some (.int (sixths3 a b))) (some (sp3 a)) (some (sp3 (near3 a b))) x13 x14 x15 x16 x17 x18) [some (.lst (nm3 b :: zs))] = some (.next, cv v0 g v3 (some (.int (-norm3 a))) (some (.int (ring3 a))) (some (.int (place3 a))) (some (.int (-norm3 b))) (some (.int (ring3 b))) (some (.int (place3 b))) (some (.int (sixths3 a b))) (some (sp3 a)) (some (sp3 (near3 a b))) (some (sp3 (rest3 a b))) x14 x15 x16 x17 x18, [some (.lst (nm3 b :: zs))]) :=
    exS_asg1 (d := sp3 (rest3 a b)) (by simp [evE, evEs, evs, sp3, idxD, sml, rest3, show 2 ≤ maxLen by decide]) rfl
  have s7 : exS Δ 189 (.ite (.cmp .NotEq (.var 13) (.lst [(.lit (.int 0)), (.lit (.int 0))])) [.expr (.mcall 0 (.var 2) [(.call 4 [(.var 13), (.var 1)])])] []) (cv v0 g v3 (some (.int (-norm3 a))) (some (.int (ring3 a))) (some (.int (place3 a))) (some (.int (-norm3 b))) (some (.int (ring3 b))) (some (.int (place3 b))) (some (.int (sixths3 a b))) (some (sp3 a)) (some (sp3 (near3 a b))) (some (sp3 (rest3 a b))) x14 x15 x16 x17 x18) [some (.lst (nm3 b :: zs))] = some (.next, cv v0 g v3 (some (.int (-norm3 a))) (some (.int (ring3 a))) (some (.int (place3 a))) (some (.int (-norm3 b))) (some (.int (ring3 b))) (some (.int (place3 b))) (some (.int (sixths3 a b))) (some (sp3 a)) (some (sp3 (near3 a b))) (some (sp3 (rest3 a b))) x14 x15 x16 x17 x18, [some (.lst ws)]) := by
    have hcmp : cmpD .NotEq (sp3 (rest3 a b)) (.lst [.int 0, .int 0]) = some (!((rest3 a b).1 == 0 && (rest3 a b).2 == 0)) := by simp [cmpD, eqD, eqDs, sp3]
    have hdep : (sp3 (rest3 a b)).dep ≤ 50 := by simp [sp3, D.dep, D.deps]
    have ht : trE Δ 188 (.cmp .NotEq (.var 13) (.lst [(.lit (.int 0)), (.lit (.int 0))])) (cv v0 g v3 (some (.int (-norm3 a))) (some (.int (ring3 a))) (some (.int (place3 a))) (some (.int (-norm3 b))) (some (.int (ring3 b))) (some (.int (place3 b))) (some (.int (sixths3 a b))) (some (sp3 a)) (some (sp3 (near3 a b))) (some (sp3 (rest3 a b))) x14 x15 x16 x17 x18) [some (.lst (nm3 b :: zs))] = some (!((rest3 a b).1 == 0 && (rest3 a b).2 == 0), [some (.lst (nm3 b :: zs))]) := by
      have hr : ∀ σ, res σ (sp3 (rest3 a b)) = some (sp3 (rest3 a b)) := fun _ => rfl
      simp [trE, evE, evEs, evs, hr, hcmp, hdep, show 2 ≤ maxLen by decide]
    refine (exS_if ht).trans ?_
    rcases hw with ⟨h0, rfl⟩ | ⟨hm, hp⟩
    · simp [h0, exSs]
    · have hne : ((rest3 a b).1 == 0 && (rest3 a b).2 == 0) = false := by
        have := norm_pos hm
        rw [Bool.eq_false_iff]; intro q
        simp only [Bool.and_eq_true, beq_iff_eq] at q
        simp [norm3, q.1, q.2] at this
      simp only [hne, Bool.not_false, if_true]
      refine exSs_one ?_
      have e := evE_mcall (Δ := Δ) (n := 185) (f := 0) (l := 0) (o := .var 2) (es := [(.call 4 [(.var 13), (.var 1)])]) (vars := cv v0 g v3 (some (.int (-norm3 a))) (some (.int (ring3 a))) (some (.int (place3 a))) (some (.int (-norm3 b))) (some (.int (ring3 b))) (some (.int (place3 b))) (some (.int (sixths3 a b))) (some (sp3 a)) (some (sp3 (near3 a b))) (some (sp3 (rest3 a b))) x14 x15 x16 x17 x18) (σ := [some (.lst (nm3 b :: zs))]) (σ' := [some (.lst (nm3 b :: zs))]) (σ2 := [some (.lst (nm3 b :: zs))]) (xs := nm3 b :: zs) (ds := [nm3 (rest3 a b)]) rfl ?_ rfl rfl (by simp [D.pures, nm_pure, pz]) hp
      · simp only [exS, e, Option.bind_some]
        rfl
      · have e2 : evE Δ 184 (.call 4 [(.var 13), (.var 1)]) (cv v0 g v3 (some (.int (-norm3 a))) (some (.int (ring3 a))) (some (.int (place3 a))) (some (.int (-norm3 b))) (some (.int (ring3 b))) (some (.int (place3 b))) (some (.int (sixths3 a b))) (some (sp3 a)) (some (sp3 (near3 a b))) (some (sp3 (rest3 a b))) x14 x15 x16 x17 x18) [some (.lst (nm3 b :: zs))] = some (nm3 (rest3 a b), [some (.lst (nm3 b :: zs))]) := evE_call (ds := [sp3 (rest3 a b), .int g]) rfl rfl (hname _ hm)
        simp only [evEs, e2, Option.bind_some, Option.map_some]
  exact ⟨_, ⟨_, _, _, _, _, _, _, _, _, _, _, _, _, _, _, _, rfl⟩, (exSs_cons s1).trans ((exSs_cons s2).trans ((exSs_cons s3).trans ((exSs_cons s4).trans ((exSs_cons s5).trans ((exSs_cons s6).trans (exSs_one s7))))))⟩
end Ev
end
section
set_option maxRecDepth 100000
set_option autoImplicit false
set_option linter.all false
set_option maxHeartbeats 8000000
namespace Ev
open PySem
/-- the defs of the heap stand -/
def HpDl (Δ : Dl) : Prop := ∃ Δ1 Δ2 Δ3 : Dl, (∀ xs ds, Δ.muts 0 xs ds = runM Δ1 200 fheappush xs ds) ∧ (∀ xs ds, Δ.muts 1 xs ds = runM Δ1 200 fheappop xs ds) ∧ (∀ xs ds, Δ1.muts 2 xs ds = runM Δ2 200 fsiftdown xs ds) ∧ (∀ xs ds, Δ1.muts 3 xs ds = runM Δ2 200 fsiftup xs ds) ∧ (∀ xs ds, Δ2.muts 2 xs ds = runM Δ3 200 fsiftdown xs ds)
structure ComDl (Δ : Dl) (g : Int) : Prop where
  hp : HpDl Δ
  back : ∀ r p, 1 ≤ r ∧ r ≤ 1000000 → Δ.fns 5 [.int r, .int p] = some (sp3 (back3 r p))
  name : ∀ s, s ∈ spots3 → Δ.fns 4 [sp3 s, .int g] = some (nm3 s)
theorem SameI.trans {h h' h2 : List (Int × Int)} (a : SameI h h') (b : SameI h' h2) : SameI h h2 := fun C i => (a C i).trans (b C i)
theorem step2 {Δ : Dl} {g : Int} {v0 : Option D} {v : Vars} {a b : Int × Int} (hΔ : ComDl Δ g) (hv : CV v0 g v) (h : HP [a, b]) : ∃ h' v', h' ≠ [] ∧ h'.length ≤ 2 ∧ HP h' ∧ msum h' < msum [a, b] ∧ SameI [a, b] h' ∧ CV v0 g v' ∧ exSs Δ 196 cBody v [some (.lst ([a, b].map nm3))] = some (.next, v', [some (.lst (h'.map nm3))]) := by
  obtain ⟨Δ1, Δ2, Δ3, p1, p2, p3, p4, p5⟩ := hΔ.hp
  have ha := h.mem a (by simp)
  have hb := h.mem b (by simp)
  have hab := h.top a [b] rfl b (by simp)
  have hpop : Δ.muts 1 [nm3 a, nm3 b] [] = some (nm3 a, [nm3 b]) := (p2 _ _).trans (Ev.pop2 p4 p5 rfl rfl)
  have na := norm_pos ha
  have nb := norm_pos hb
  obtain ⟨_, hr⟩ := pair_ok ha hb hab
  rcases hr with hr | ⟨hr, hr2⟩
  · obtain ⟨v', k1, k2⟩ := turn_ok (ws := [nm3 b]) hv ha hb hab rfl rfl hΔ.back hΔ.name hpop (.inl ⟨hr, rfl⟩)
    refine ⟨[b], v', by simp, by simp, ⟨fun s hs => by simp at hs; rw [hs]; exact hb, fun x r e => by cases e; simp⟩, ?_, ?_, k1, k2⟩
    · simp [msum]; omega
    · intro C i
      simp only [List.mem_cons, List.not_mem_nil, or_false, forall_eq_or_imp, forall_eq]
      refine ⟨fun q => q.2, fun q => ⟨?_, q⟩⟩
      have := i.rest ha hb hab q
      rw [hr] at this
      exact this.mp (i.zero q)
  · obtain ⟨t, e1, e2, e3⟩ := ltD_nm (rest3 a b) b
    have nr := norm_pos hr
    have hpush : Δ.muts 0 [nm3 b] [nm3 (rest3 a b)] = some (.none, (if t then [rest3 a b, b] else [b, rest3 a b]).map nm3) := by
      refine (p1 _ _).trans ((Ev.push1 p3 e1 (nm_dep _) rfl rfl).trans ?_)
      cases t <;> rfl
    obtain ⟨v', k1, k2⟩ := turn_ok (ws := (if t then [rest3 a b, b] else [b, rest3 a b]).map nm3) hv ha hb hab rfl rfl hΔ.back hΔ.name hpop (.inr ⟨hr, hpush⟩)
    refine ⟨_, v', ?_, ?_, ⟨?_, ?_⟩, ?_, ?_, k1, k2⟩
    · cases t <;> simp
    · cases t <;> simp
    · cases t <;> simp [hr, hb]
    · cases t
      · intro x r e; cases e; simpa using e3 rfl
      · intro x r e; cases e; simpa using e2 rfl
    · cases t <;> simp [msum] <;> omega
    · intro C i
      have : (∀ s ∈ [a, b], C s) ↔ (∀ s ∈ [rest3 a b, b], C s) := by
        simp only [List.mem_cons, List.not_mem_nil, or_false, forall_eq_or_imp, forall_eq]
        exact ⟨fun q => ⟨(i.rest ha hb hab q.2).mpr q.1, q.2⟩, fun q => ⟨(i.rest ha hb hab q.2).mp q.1, q.2⟩⟩
      rw [this]
      cases t <;> simp [and_comm]
theorem step3 {Δ : Dl} {g : Int} {v0 : Option D} {v : Vars} {a b c : Int × Int} (hΔ : ComDl Δ g) (hv : CV v0 g v) (h : HP [a, b, c]) : ∃ h' v', h' ≠ [] ∧ h'.length ≤ 3 ∧ HP h' ∧ msum h' < msum [a, b, c] ∧ SameI [a, b, c] h' ∧ CV v0 g v' ∧ exSs Δ 196 cBody v [some (.lst ([a, b, c].map nm3))] = some (.next, v', [some (.lst (h'.map nm3))]) := by
  obtain ⟨Δ1, Δ2, Δ3, p1, p2, p3, p4, p5⟩ := hΔ.hp
  have ha := h.mem a (by simp)
  have hb := h.mem b (by simp)
  have hc := h.mem c (by simp)
  have hab := h.top a [b, c] rfl b (by simp)
  have hac := h.top a [b, c] rfl c (by simp)
  obtain ⟨t, e1, e2, e3⟩ := ltD_nm c b
  -- the two that stay, in order
  obtain ⟨p, q, hp, hq, hpa, hqp, hpop, hm, hI⟩ : ∃ p q, p ∈ spots3 ∧ q ∈ spots3 ∧ norm3 p ≤ norm3 a ∧ norm3 q ≤ norm3 p ∧ Δ.muts 1 [nm3 a, nm3 b, nm3 c] [] = some (nm3 a, [nm3 p, nm3 q]) ∧ msum [p, q] = msum [b, c] ∧ (∀ C : Int × Int → Prop, C p ∧ C q ↔ C b ∧ C c) := by
    have hpop := (p2 [nm3 a, nm3 b, nm3 c] []).trans (Ev.pop3 p4 p5 e1 (nm_dep _) rfl rfl rfl)
    cases t
    · exact ⟨b, c, hb, hc, hab, e3 rfl, hpop, rfl, fun C => Iff.rfl⟩
    · exact ⟨c, b, hc, hb, hac, e2 rfl, hpop, by simp [msum]; omega, fun C => and_comm⟩
  have na := norm_pos ha
  have np := norm_pos hp
  have nq := norm_pos hq
  obtain ⟨_, hr⟩ := pair_ok ha hp hpa
  have hms : msum [a, b, c] = (norm3 a).toNat + msum [p, q] := by rw [hm]; simp [msum]
  rw [hms]
  have hI2 : ∀ C : Int × Int → Prop, (∀ s ∈ [a, b, c], C s) ↔ C a ∧ C p ∧ C q := fun C => by
    rw [hI C]; simp
  rcases hr with hr | ⟨hr, hr2⟩
  · obtain ⟨v', k1, k2⟩ := turn_ok (ws := [nm3 p, nm3 q]) hv ha hp hpa rfl rfl hΔ.back hΔ.name hpop (.inl ⟨hr, rfl⟩)
    refine ⟨[p, q], v', by simp, by simp, ⟨by simp [hp, hq], fun x r e => by cases e; simpa using hqp⟩, ?_, ?_, k1, k2⟩
    · omega
    · intro C i
      rw [hI2 C]
      simp only [List.mem_cons, List.not_mem_nil, or_false, forall_eq_or_imp, forall_eq]
      refine ⟨fun q => q.2, fun q => ⟨?_, q⟩⟩
      have := i.rest ha hp hpa q.1
      rw [hr] at this
      exact this.mp (i.zero q.1)
  · obtain ⟨u, f1, f2, f3⟩ := ltD_nm (rest3 a p) p
    have nr := norm_pos hr
    have hpush : Δ.muts 0 [nm3 p, nm3 q] [nm3 (rest3 a p)] = some (.none, (if u then [rest3 a p, q, p] else [p, q, rest3 a p]).map nm3) := by
      refine (p1 _ _).trans ((Ev.push2 p3 f1 (nm_dep _) rfl rfl rfl).trans ?_)
      cases u <;> rfl
    obtain ⟨v', k1, k2⟩ := turn_ok (ws := (if u then [rest3 a p, q, p] else [p, q, rest3 a p]).map nm3) hv ha hp hpa rfl rfl hΔ.back hΔ.name hpop (.inr ⟨hr, hpush⟩)
    refine ⟨_, v', ?_, ?_, ⟨?_, ?_⟩, ?_, ?_, k1, k2⟩
    · cases u <;> simp
    · cases u <;> simp
    · cases u <;> simp [hr, hp, hq]
    · cases u
      · intro x r e; cases e; have := f3 rfl; simp; omega
      · intro x r e; cases e; have := f2 rfl; simp; omega
    · cases u <;> simp [msum] <;> omega
    · intro C i
      rw [hI2 C]
      have : C a ∧ C p ∧ C q ↔ C (rest3 a p) ∧ C p ∧ C q := ⟨fun k => ⟨(i.rest ha hp hpa k.2.1).mpr k.1, k.2⟩, fun k => ⟨(i.rest ha hp hpa k.2.1).mp k.1, k.2⟩⟩
      rw [this]
      cases u <;> simp [and_comm, and_left_comm, and_assoc]
theorem loop3 {Δ : Dl} {g : Int} {v0 : Option D} (hΔ : ComDl Δ g) : ∀ (n : Nat) (h : List (Int × Int)) (v : Vars), msum h < n → h ≠ [] → h.length ≤ 3 → HP h → CV v0 g v → ∃ s v', HP [s] ∧ SameI h [s] ∧ CV v0 g v' ∧
    whD (fun vars σ => trE Δ 196 (.cmp .Gt (.bi .len [(.var 2)]) (.lit (.int 1))) vars σ) (fun vars σ => exSs Δ 196 cBody vars σ) n v [some (.lst (h.map nm3))] = some (.next, v', [some (.lst [nm3 s])])
  | 0, h, v, hn, _, _, _, _ => by omega
  | n + 1, h, v, hn, h0, h3, hh, hv => by
    have hc : trE Δ 196 (.cmp .Gt (.bi .len [(.var 2)]) (.lit (.int 1))) v [some (.lst (h.map nm3))] = some (decide ((h.length : Int) > 1), [some (.lst (h.map nm3))]) := by
      obtain ⟨v3, x4, x5, x6, x7, x8, x9, x10, x11, x12, x13, x14, x15, x16, x17, x18, rfl⟩ := hv
      have : biD .len [.lst (h.map nm3)] = some (.int h.length) := by
        have : h.length ≤ maxLen := by have : maxLen = 1048576 := rfl; omega
        simp [biD, this]
      simp [trE, evE, evEs, evs, ress, res_at, this]
    rw [whD_s, hc]
    match h, h0, h3, hh with
    | [s], _, _, hh => exact ⟨s, v, hh, fun C i => Iff.rfl, hv, rfl⟩
    | [a, b], _, _, hh =>
      obtain ⟨h', v', k1, k2, k3, k4, k5, k6, k7⟩ := step2 hΔ hv hh
      obtain ⟨s, v2, m1, m2, m3, m4⟩ := loop3 hΔ n h' v' (by omega) k1 (by omega) k3 k6
      refine ⟨s, v2, m1, k5.trans m2, m3, ?_⟩
      have : decide ((([a, b] : List (Int × Int)).length : Int) > 1) = true := by simp
      rw [this]
      simp only [k7, m4]
    | [a, b, c], _, _, hh =>
      obtain ⟨h', v', k1, k2, k3, k4, k5, k6, k7⟩ := step3 hΔ hv hh
      obtain ⟨s, v2, m1, m2, m3, m4⟩ := loop3 hΔ n h' v' (by omega) k1 (by omega) k3 k6
      refine ⟨s, v2, m1, k5.trans m2, m3, ?_⟩
      have : decide ((([a, b, c] : List (Int × Int)).length : Int) > 1) = true := by simp
      rw [this]
      simp only [k7, m4]
end Ev
end
section
set_option maxRecDepth 100000
set_option autoImplicit false
set_option linter.all false
set_option maxHeartbeats 8000000
namespace Ev
open PySem
def cF (Δ : Dl) : D → Vars → Sto → Option (Flw × Vars × Sto) := fun d vars σ => (asgT (.var 3) d vars).bind fun vars => exSs Δ 197 [.expr (.mcall 0 (.var 2) [(.var 3)])] vars σ
theorem push_step {Δ : Dl} {g : Int} {v0 : Option D} {v : Vars} {x : Int × Int} {xs ys : List D} (px : D.pures xs = true) (hp : Δ.muts 0 xs [nm3 x] = some (.none, ys)) (hv : CV v0 g v) : ∃ v', CV v0 g v' ∧ cF Δ (nm3 x) v [some (.lst xs)] = some (.next, v', [some (.lst ys)]) := by
  obtain ⟨v3, x4, x5, x6, x7, x8, x9, x10, x11, x12, x13, x14, x15, x16, x17, x18, rfl⟩ := hv
  have e := evE_mcall (Δ := Δ) (n := 194) (f := 0) (l := 0) (o := .var 2) (es := [(.var 3)]) (vars := cv v0 g (some (nm3 x)) x4 x5 x6 x7 x8 x9 x10 x11 x12 x13 x14 x15 x16 x17 x18) (σ := [some (.lst xs)]) (σ' := [some (.lst xs)]) (σ2 := [some (.lst xs)]) (xs := xs) (ds := [nm3 x]) rfl rfl rfl rfl px hp
  refine ⟨cv v0 g (some (nm3 x)) x4 x5 x6 x7 x8 x9 x10 x11 x12 x13 x14 x15 x16 x17 x18, ⟨_, _, _, _, _, _, _, _, _, _, _, _, _, _, _, _, rfl⟩, ?_⟩
  have s : exS Δ 196 (.expr (.mcall 0 (.var 2) [(.var 3)])) (cv v0 g (some (nm3 x)) x4 x5 x6 x7 x8 x9 x10 x11 x12 x13 x14 x15 x16 x17 x18) [some (.lst xs)] = some (.next, cv v0 g (some (nm3 x)) x4 x5 x6 x7 x8 x9 x10 x11 x12 x13 x14 x15 x16 x17 x18, [some (.lst ys)]) := by
    simp only [exS, e, Option.bind_some]; rfl
  show (asgT (.var 3) (nm3 x) _).bind _ = _
  rw [show asgT (.var 3) (nm3 x) (cv v0 g v3 x4 x5 x6 x7 x8 x9 x10 x11 x12 x13 x14 x15 x16 x17 x18) = some (cv v0 g (some (nm3 x)) x4 x5 x6 x7 x8 x9 x10 x11 x12 x13 x14 x15 x16 x17 x18) from rfl, Option.bind_some]
  exact exSs_one s
theorem heap2 {Δ : Dl} {g : Int} {v0 : Option D} {v : Vars} {a b : Int × Int} (hΔ : ComDl Δ g) (ha : a ∈ spots3) (hb : b ∈ spots3) (hv : CV v0 g v) (ds : List D) : ∃ p q v', HP [p, q] ∧ SameI [a, b] [p, q] ∧ CV v0 g v' ∧ forD (cF Δ) (nm3 a :: nm3 b :: ds) v [some (.lst [])] = forD (cF Δ) ds v' [some (.lst [nm3 p, nm3 q])] := by
  obtain ⟨Δ1, Δ2, Δ3, p1, p2, p3, p4, p5⟩ := hΔ.hp
  obtain ⟨v1, c1, e1⟩ := push_step (x := a) rfl ((p1 _ _).trans (Ev.push0 p3 (nm_pure a))) hv
  obtain ⟨t, f1, f2, f3⟩ := ltD_nm b a
  obtain ⟨v2, c2, e2⟩ := push_step (x := b) (xs := [nm3 a]) rfl ((p1 _ _).trans (Ev.push1 p3 f1 (nm_dep _) rfl rfl)) c1
  cases t
  · refine ⟨a, b, v2, ⟨by simp [ha, hb], fun x r e => by cases e; simpa using f3 rfl⟩, fun C i => Iff.rfl, c2, ?_⟩
    simp only [forD, e1, e2]; rfl
  · refine ⟨b, a, v2, ⟨by simp [ha, hb], fun x r e => by cases e; simpa using f2 rfl⟩, fun C i => by simp [and_comm], c2, ?_⟩
    simp only [forD, e1, e2]; rfl
theorem heap3 {Δ : Dl} {g : Int} {v0 : Option D} {v : Vars} {a b c : Int × Int} (hΔ : ComDl Δ g) (ha : a ∈ spots3) (hb : b ∈ spots3) (hc : c ∈ spots3) (hv : CV v0 g v) (ds : List D) : ∃ h v', h ≠ [] ∧ h.length ≤ 3 ∧ HP h ∧ SameI [a, b, c] h ∧ CV v0 g v' ∧ forD (cF Δ) (nm3 a :: nm3 b :: nm3 c :: ds) v [some (.lst [])] = forD (cF Δ) ds v' [some (.lst (h.map nm3))] := by
  obtain ⟨p, q, v1, k1, k2, k3, k4⟩ := heap2 hΔ ha hb hv (nm3 c :: ds)
  obtain ⟨Δ1, Δ2, Δ3, p1, p2, p3, p4, p5⟩ := hΔ.hp
  obtain ⟨t, f1, f2, f3⟩ := ltD_nm c p
  obtain ⟨v2, c2, e2⟩ := push_step (x := c) (xs := [nm3 p, nm3 q]) rfl ((p1 _ _).trans (Ev.push2 p3 f1 (nm_dep _) rfl rfl rfl)) k3
  have hp := k1.mem p (by simp)
  have hq := k1.mem q (by simp)
  have hqp := k1.top p [q] rfl q (by simp)
  have hS : ∀ C, Idl C → ((∀ s ∈ [a, b, c], C s) ↔ C p ∧ C q ∧ C c) := fun C i => by
    have := k2 C i
    simp only [List.mem_cons, List.not_mem_nil, or_false, forall_eq_or_imp, forall_eq] at this ⊢
    constructor
    · intro m; exact ⟨(this.mp ⟨m.1, m.2.1⟩).1, (this.mp ⟨m.1, m.2.1⟩).2, m.2.2⟩
    · intro m; exact ⟨(this.mpr ⟨m.1, m.2.1⟩).1, (this.mpr ⟨m.1, m.2.1⟩).2, m.2.2⟩
  cases t
  · refine ⟨[p, q, c], v2, by simp, by simp, ⟨by simp [hp, hq, hc], fun x r e => by cases e; have := f3 rfl; simp; omega⟩, fun C i => ?_, c2, ?_⟩
    · rw [hS C i]; simp
    · rw [k4]; simp only [forD, e2]; rfl
  · refine ⟨[c, q, p], v2, by simp, by simp, ⟨by simp [hp, hq, hc], fun x r e => by cases e; have := f2 rfl; simp; omega⟩, fun C i => ?_, c2, ?_⟩
    · rw [hS C i]; simp [and_comm, and_left_comm, and_assoc]
    · rw [k4]; simp only [forD, e2]; rfl
theorem msum_lt {h : List (Int × Int)} (hh : HP h) (h3 : h.length ≤ 3) : msum h < whFuel := by
  have hw : whFuel = 1000 := rfl
  match h, h3, hh with
  | [], _, _ => simp [msum]; omega
  | [a], _, hh => have := norm_pos (hh.mem a (by simp)); simp [msum]; omega
  | [a, b], _, hh => have := norm_pos (hh.mem a (by simp)); have := norm_pos (hh.mem b (by simp)); simp [msum]; omega
  | [a, b, c], _, hh => have := norm_pos (hh.mem a (by simp)); have := norm_pos (hh.mem b (by simp)); have := norm_pos (hh.mem c (by simp)); simp [msum]; omega
theorem common_ok {Δ : Dl} {g : Int} (hΔ : ComDl Δ g) {ss : List (Int × Int)} (h2 : 2 ≤ ss.length) (h3 : ss.length ≤ 3) (hm : ∀ s ∈ ss, s ∈ spots3) : ∃ s, s ∈ spots3 ∧ SameI ss [s] ∧ runP Δ 200 flawcommon [.lst (ss.map nm3), .int g] = some (nm3 s) := by
  -- the heap is filled
  obtain ⟨h, v1, k1, k2, k3, k4, k5, k6⟩ : ∃ h v', h ≠ [] ∧ h.length ≤ 3 ∧ HP h ∧ SameI ss h ∧ CV (some (.lst (ss.map nm3))) g v' ∧ forD (cF Δ) (ss.map nm3) (cv (some (.lst (ss.map nm3))) g none none none none none none none none none none none none none none none none) [some (.lst [])] = some (.next, v', [some (.lst (h.map nm3))]) := by
    match ss, h2, h3, hm with
    | [a, b], _, _, hm =>
      obtain ⟨p, q, v', k1, k2, k3, k4⟩ := heap2 (v := cv (some (.lst ([a, b].map nm3))) g none none none none none none none none none none none none none none none none) hΔ (hm a (by simp)) (hm b (by simp)) ⟨_, _, _, _, _, _, _, _, _, _, _, _, _, _, _, _, rfl⟩ []
      exact ⟨[p, q], v', by simp, by simp, k1, k2, k3, k4⟩
    | [a, b, c], _, _, hm =>
      obtain ⟨h, v', k0, k1, k2, k3, k4, k5⟩ := heap3 (v := cv (some (.lst ([a, b, c].map nm3))) g none none none none none none none none none none none none none none none none) hΔ (hm a (by simp)) (hm b (by simp)) (hm c (by simp)) ⟨_, _, _, _, _, _, _, _, _, _, _, _, _, _, _, _, rfl⟩ []
      exact ⟨h, v', k0, k1, k2, k3, k4, k5⟩
  obtain ⟨s, v2, m1, m2, m3, m4⟩ := loop3 hΔ whFuel h v1 (msum_lt k3 k2) k1 k2 k3 k5
  refine ⟨s, m1.mem s (by simp), k4.trans m2, ?_⟩
  have hbody : flawcommon.body = [.asg [(.var 2)] (.lst []), .for (.var 3) (.var 0) [.expr (.mcall 0 (.var 2) [(.var 3)])], .wh (.cmp .Gt (.bi .len [(.var 2)]) (.lit (.int 1))) cBody, .ret (.idx (.var 2) (.lit (.int 0)))] := rfl
  refine Rets.run ?_ rfl (by simp [D.pures, D.pure, nms_pure]) rfl
  rw [hbody]
  show Rets Δ 200 _ [some (.lst (ss.map nm3)), some (.int g), none, none, none, none, none, none, none, none, none, none, none, none, none, none, none, none, none] [] _
  have hi : itE Δ 197 (.var 0) (cv (some (.lst (ss.map nm3))) g none none none none none none none none none none none none none none none none) [some (.lst [])] = some (ss.map nm3, [some (.lst [])]) := by
    have : ss.length ≤ maxLen := by have : maxLen = 1048576 := rfl; omega
    simp [itE, evE, evs, itemsOf, this]
  refine .step (σ' := [some (.lst [])]) (exS_asg1 (d := .loc 0) rfl rfl) (.step (vars' := v1) (σ' := [some (.lst (h.map nm3))]) ?_ (.step (vars' := v2) (σ' := [some (.lst [nm3 s])]) ?_ (.ret (x := nm3 s) ?_ rfl)))
  · rw [← k6]
    show (itE Δ 197 (.var 0) (cv (some (.lst (ss.map nm3))) g none none none none none none none none none none none none none none none none) [some (.lst [])]).bind _ = _
    rw [hi]; rfl
  · rw [← m4]; rfl
  · obtain ⟨v3, x4, x5, x6, x7, x8, x9, x10, x11, x12, x13, x14, x15, x16, x17, x18, rfl⟩ := m3
    rfl
end Ev
end
section
set_option maxRecDepth 100000
set_option autoImplicit false
set_option linter.all false
set_option maxHeartbeats 8000000
namespace Ev
open PySem
def told2 (a b : Int × Int) : List Int := [cross3 a (turn3 a), cross3 b (turn3 b), cross3 a b, cross3 a (turn3 b)]
def told3 (a b c : Int × Int) : List Int := [cross3 a (turn3 a), cross3 b (turn3 b), cross3 a b, cross3 a (turn3 b), cross3 c (turn3 c), cross3 a c, cross3 a (turn3 c), cross3 b c, cross3 b (turn3 c)]
def told : List (Int × Int) → List Int
  | [a, b] => told2 a b
  | [a, b, c] => told3 a b c
  | _ => []
/-- the multiples of L -/
def Mul (L h : Int × Int) : Prop := ∃ x y : Int, h = (x * L.1 + y * (L.1 - L.2), x * L.2 + y * L.1)
theorem mul_idl (L : Int × Int) : Idl (Mul L) where
  sub a b := by
    rintro ⟨x, y, rfl⟩ ⟨u, v, rfl⟩
    exact ⟨x - u, y - v, by simp only [sub3, Prod.mk.injEq]; constructor <;> grind⟩
  turn a := by
    rintro ⟨x, y, rfl⟩
    exact ⟨-y, x + y, by simp only [turn3, Prod.mk.injEq]; constructor <;> grind⟩
theorem mul_self (L : Int × Int) : Mul L L := ⟨1, 0, by simp⟩
theorem mul_cross {L a b : Int × Int} (ha : Mul L a) (hb : Mul L b) : norm3 L ∣ cross3 a b := by
  obtain ⟨x, y, rfl⟩ := ha
  obtain ⟨u, v, rfl⟩ := hb
  exact ⟨x * v - y * u, by simp only [cross3, norm3]; grind⟩
theorem cross_self (L : Int × Int) : cross3 L (turn3 L) = norm3 L := by simp only [cross3, turn3, norm3]; grind
/-- d divides t's conjugate times h -/
def Dv (d : Int) (t h : Int × Int) : Prop := d ∣ cross3 t h ∧ d ∣ cross3 h (turn3 t)
theorem dv_idl (d : Int) (t : Int × Int) : Idl (Dv d t) where
  sub a b := by
    rintro ⟨⟨p, hp⟩, ⟨q, hq⟩⟩ ⟨⟨u, hu⟩, ⟨v, hv⟩⟩
    refine ⟨⟨p - u, ?_⟩, ⟨q - v, ?_⟩⟩ <;> simp only [cross3, sub3, turn3] at * <;> grind
  turn a := by
    rintro ⟨⟨p, hp⟩, ⟨q, hq⟩⟩
    refine ⟨⟨p + q, ?_⟩, ⟨-p, ?_⟩⟩ <;> simp only [cross3, turn3] at * <;> grind
theorem dv_symm {d : Int} {t h : Int × Int} : Dv d t h → Dv d h t := by
  rintro ⟨⟨p, hp⟩, ⟨q, hq⟩⟩
  refine ⟨⟨-p, ?_⟩, ⟨p + q, ?_⟩⟩ <;> simp only [cross3, turn3] at * <;> grind
theorem dv_self {d : Int} {t : Int × Int} (h : d ∣ cross3 t (turn3 t)) : Dv d t t := ⟨⟨0, by simp only [cross3]; grind⟩, h⟩
theorem dv_of {d : Int} {s t : Int × Int} (h1 : d ∣ cross3 s t) (h2 : d ∣ cross3 s (turn3 t)) : Dv d t s := by
  obtain ⟨p, hp⟩ := h1
  exact ⟨⟨-p, by simp only [cross3] at *; grind⟩, h2⟩
theorem told_dv {d : Int} {ss : List (Int × Int)} (h2 : 2 ≤ ss.length) (h3 : ss.length ≤ 3) (h : ∀ r ∈ told ss, d ∣ r) : ∀ s ∈ ss, ∀ t ∈ ss, Dv d s t := by
  match ss, h2, h3 with
  | [a, b], _, _ =>
    simp only [told, told2, List.mem_cons, List.not_mem_nil, or_false, forall_eq_or_imp, forall_eq] at h ⊢
    obtain ⟨k1, k2, k3, k4⟩ := h
    have m := dv_of k3 k4
    exact ⟨⟨dv_self k1, dv_symm m⟩, m, dv_self k2⟩
  | [a, b, c], _, _ =>
    simp only [told, told3, List.mem_cons, List.not_mem_nil, or_false, forall_eq_or_imp, forall_eq] at h ⊢
    obtain ⟨k1, k2, k3, k4, k5, k6, k7, k8, k9⟩ := h
    have m1 := dv_of k3 k4
    have m2 := dv_of k6 k7
    have m3 := dv_of k8 k9
    exact ⟨⟨dv_self k1, dv_symm m1, dv_symm m2⟩, ⟨m1, dv_self k2, dv_symm m3⟩, m2, m3, dv_self k5⟩
theorem gcd_mul {ss : List (Int × Int)} {L : Int × Int} (h : SameI ss [L]) : ∀ s ∈ ss, Mul L s := (h _ (mul_idl L)).mpr (by simpa using mul_self L)
theorem gcd_dv {ss : List (Int × Int)} {L : Int × Int} (h : SameI ss [L]) (h2 : 2 ≤ ss.length) (h3 : ss.length ≤ 3) {d : Int} (hd : ∀ r ∈ told ss, d ∣ r) : d ∣ norm3 L := by
  have h1 := told_dv h2 h3 hd
  have h2 : ∀ t ∈ ss, Dv d t L := fun t ht => by
    have := (h _ (dv_idl d t)).mp (fun s hs => h1 t ht s hs)
    simpa using this
  have h3 := (h _ (dv_idl d L)).mp (fun s hs => dv_symm (h2 s hs))
  have : Dv d L L := by simpa using h3
  rw [← cross_self]
  exact this.2
theorem told_mul {ss : List (Int × Int)} {L : Int × Int} (h : SameI ss [L]) (h2 : 2 ≤ ss.length) (h3 : ss.length ≤ 3) : ∀ r ∈ told ss, norm3 L ∣ r := by
  have hm := gcd_mul h
  have ht : ∀ s ∈ ss, Mul L (turn3 s) := fun s hs => (mul_idl L).turn s (hm s hs)
  match ss, h2, h3 with
  | [a, b], _, _ =>
    simp only [List.mem_cons, List.not_mem_nil, or_false, forall_eq_or_imp, forall_eq] at hm ht
    simp only [told, told2, List.mem_cons, List.not_mem_nil, or_false, forall_eq_or_imp, forall_eq]
    exact ⟨mul_cross hm.1 ht.1, mul_cross hm.2 ht.2, mul_cross hm.1 hm.2, mul_cross hm.1 ht.2⟩
  | [a, b, c], _, _ =>
    simp only [List.mem_cons, List.not_mem_nil, or_false, forall_eq_or_imp, forall_eq] at hm ht
    simp only [told, told3, List.mem_cons, List.not_mem_nil, or_false, forall_eq_or_imp, forall_eq]
    exact ⟨mul_cross hm.1 ht.1, mul_cross hm.2.1 ht.2.1, mul_cross hm.1 hm.2.1, mul_cross hm.1 ht.2.1, mul_cross hm.2.2 ht.2.2, mul_cross hm.1 hm.2.2, mul_cross hm.1 ht.2.2, mul_cross hm.2.1 hm.2.2, mul_cross hm.2.1 ht.2.2⟩
/-- the runs: the numbers without sign, but for nought -/
def runs3 (ss : List (Int × Int)) : List Nat := ((told ss).filter (fun i => !(i == 0))).map Int.natAbs
theorem runs_pos {ss : List (Int × Int)} : ∀ r ∈ runs3 ss, 1 ≤ r := by
  intro r hr
  simp only [runs3, List.mem_map, List.mem_filter] at hr
  obtain ⟨i, ⟨_, h1⟩, rfl⟩ := hr
  simp at h1
  omega
theorem runs_dvd {ss : List (Int × Int)} {L : Int × Int} (h : SameI ss [L]) (h2 : 2 ≤ ss.length) (h3 : ss.length ≤ 3) (d : Nat) : (∀ r ∈ runs3 ss, d ∣ r) ↔ (d : Int) ∣ norm3 L := by
  constructor
  · intro hd
    refine gcd_dv h h2 h3 fun r hr => ?_
    by_cases h0 : r = 0
    · subst h0; exact Int.dvd_zero _
    · have := hd r.natAbs (by simp only [runs3, List.mem_map, List.mem_filter]; exact ⟨r, ⟨hr, by simpa using h0⟩, rfl⟩)
      exact Int.ofNat_dvd_left.mpr this
  · intro hd r hr
    simp only [runs3, List.mem_map, List.mem_filter] at hr
    obtain ⟨i, ⟨h1, _⟩, rfl⟩ := hr
    exact Int.ofNat_dvd_left.mp (Int.dvd_trans hd (told_mul h h2 h3 i h1))
theorem told_bound {ss : List (Int × Int)} (hm : ∀ s ∈ ss, s ∈ spots3) : ∀ r ∈ told ss, -100 ≤ r ∧ r ≤ 100 := by
  have hs : ∀ s, s ∈ spots3 → -4 ≤ s.1 ∧ s.1 ≤ 4 ∧ -4 ≤ s.2 ∧ s.2 ≤ 4 := fun s h => by
    have := isSpot_mem.mpr h
    simp only [isSpot, Bool.and_eq_true, decide_eq_true_eq] at this
    omega
  have hp : ∀ x y : Int, -8 ≤ x → x ≤ 8 → -4 ≤ y → y ≤ 4 → -32 ≤ x * y ∧ x * y ≤ 32 := by
    intro x y h1 h2 h3 h4
    have : y = -4 ∨ y = -3 ∨ y = -2 ∨ y = -1 ∨ y = 0 ∨ y = 1 ∨ y = 2 ∨ y = 3 ∨ y = 4 := by omega
    rcases this with rfl | rfl | rfl | rfl | rfl | rfl | rfl | rfl | rfl <;> omega
  have hc : ∀ s t, s ∈ spots3 → t ∈ spots3 → -100 ≤ cross3 s t ∧ cross3 s t ≤ 100 := fun s t h1 h2 => by
    have a := hs s h1; have b := hs t h2
    have := hp s.1 t.2 (by omega) (by omega) (by omega) (by omega)
    have := hp s.2 t.1 (by omega) (by omega) (by omega) (by omega)
    simp only [cross3]; omega
  have hd : ∀ s t, s ∈ spots3 → t ∈ spots3 → -100 ≤ cross3 s (turn3 t) ∧ cross3 s (turn3 t) ≤ 100 := fun s t h1 h2 => by
    have a := hs s h1; have b := hs t h2
    have := hp t.1 s.1 (by omega) (by omega) (by omega) (by omega)
    have := hp (t.1 - t.2) s.2 (by omega) (by omega) (by omega) (by omega)
    rw [Int.mul_comm] at this
    simp only [cross3, turn3]
    rw [Int.mul_comm s.1]; omega
  match ss, hm with
  | [a, b], hm =>
    have ha := hm a (by simp); have hb := hm b (by simp)
    simp only [told, told2, List.mem_cons, List.not_mem_nil, or_false, forall_eq_or_imp, forall_eq]
    exact ⟨hd _ _ ha ha, hd _ _ hb hb, hc _ _ ha hb, hd _ _ ha hb⟩
  | [a, b, c], hm =>
    have ha := hm a (by simp); have hb := hm b (by simp); have hc' := hm c (by simp)
    simp only [told, told3, List.mem_cons, List.not_mem_nil, or_false, forall_eq_or_imp, forall_eq]
    exact ⟨hd _ _ ha ha, hd _ _ hb hb, hc _ _ ha hb, hd _ _ ha hb, hd _ _ hc' hc', hc _ _ ha hc', hd _ _ ha hc', hc _ _ hb hc', hd _ _ hb hc'⟩
  | [], _ => simp [told]
  | [_], _ => simp [told]
  | _ :: _ :: _ :: _ :: _, _ => simp [told]
end Ev
end
section
set_option maxRecDepth 100000
set_option autoImplicit false
set_option linter.all false
set_option maxHeartbeats 8000000
namespace Ev
open PySem
/-- a comprehension over ints -/
theorem compD_ints {f : D → Vars → Sto → Option (Option D × Vars × Sto)} (I : Vars → Prop) (p : Int → Bool) (h : Int → D) {σ : Sto} {l : List Int} {vs : Vars} (hf : ∀ i ∈ l, ∀ vs, I vs → ∃ vs', f (.int i) vs σ = some (if p i then some (h i) else none, vs', σ) ∧ I vs') (i : I vs) : compD f (l.map .int) vs σ = some ((l.filter p).map h, σ) := by
  induction l generalizing vs with
  | nil => rfl
  | cons a l ih =>
    obtain ⟨vs', e, i'⟩ := hf a (by simp) vs i
    have := ih (fun i hi => hf i (by simp [hi])) i'
    simp only [List.map_cons, compD, e]
    cases q : p a
    · simp only [Bool.false_eq_true, if_false, this, List.filter_cons, q]
    · simp only [if_true, this, List.filter_cons, q, List.map_cons]
def riBody : List S := [.expr (.append (.var 1) (.call 3 [(.idx (.var 0) (.var 3)), (.idx (.var 0) (.var 2))])), .expr (.append (.var 1) (.call 3 [(.idx (.var 0) (.var 3)), (.call 1 [(.idx (.var 0) (.var 2))])]))]
def roBody : List S := [.expr (.append (.var 1) (.call 3 [(.idx (.var 0) (.var 2)), (.call 1 [(.idx (.var 0) (.var 2))])])), .for (.var 3) (.bi .range [(.var 2)]) riBody]
def riF (Δ : Dl) : D → Vars → Sto → Option (Flw × Vars × Sto) := fun d vars σ => (asgT (.var 3) d vars).bind fun vars => exSs Δ 194 riBody vars σ
def roF (Δ : Dl) : D → Vars → Sto → Option (Flw × Vars × Sto) := fun d vars σ => (asgT (.var 2) d vars).bind fun vars => exSs Δ 197 roBody vars σ
abbrev rv (v0 j i : Option D) : Vars := [v0, some (.loc 0), j, i, none, none, none, none]
structure RunDl (Δ : Dl) : Prop where
  turn : ∀ s : Int × Int, Δ.fns 1 [sp3 s] = some (sp3 (turn3 s))
  cross : ∀ s t : Int × Int, -1000 ≤ s.1 ∧ s.1 ≤ 1000 → -1000 ≤ s.2 ∧ s.2 ≤ 1000 → Δ.fns 3 [sp3 s, sp3 t] = some (.int (cross3 s t))
theorem spot_bd {s : Int × Int} (h : s ∈ spots3) : (-1000 ≤ s.1 ∧ s.1 ≤ 1000) ∧ (-1000 ≤ s.2 ∧ s.2 ≤ 1000) := by
  have := isSpot_mem.mpr h
  simp only [isSpot, Bool.and_eq_true, decide_eq_true_eq] at this
  omega
theorem ri_step {Δ : Dl} (hΔ : RunDl Δ) {vd : D} {i j : Int} {x : Option D} {a b : Int × Int} {xs : List D} (ha : a ∈ spots3) (hr : ∀ σ, res σ vd = some vd) (h1 : idxD vd (.int i) = some (sp3 a)) (h2 : idxD vd (.int j) = some (sp3 b)) (hx : xs.length < 1000) :
    riF Δ (.int i) (rv (some vd) (some (.int j)) x) [some (.lst xs)] = some (.next, rv (some vd) (some (.int j)) (some (.int i)), [some (.lst (xs ++ [.int (cross3 a b), .int (cross3 a (turn3 b))]))]) := by
  have hM : maxLen = 1048576 := rfl
  have hx1 : xs.length < maxLen := by omega
  have hx2 : xs.length + 1 < maxLen := by omega
  have c1 := hΔ.cross a b (spot_bd ha).1 (spot_bd ha).2
  have c2 := hΔ.cross a (turn3 b) (spot_bd ha).1 (spot_bd ha).2
  have c3 := hΔ.turn b
  have p1 : D.pures [sp3 a, sp3 b] = true := rfl
  have p2 : D.pures [sp3 a, sp3 (turn3 b)] = true := rfl
  have p3 : D.pures [sp3 b] = true := rfl
  simp [riF, riBody, rv, exSs, exS, evE, evEs, asgT, setVar, isLst, hr, h1, h2, p1, p2, p3, c1, c2, c3, hx1, hx2]
theorem ro_step {Δ : Dl} (hΔ : RunDl Δ) {vd : D} {j : Nat} {x y y' : Option D} {a : Int × Int} {xs ys : List D} (hj : j < 1000) (ha : a ∈ spots3) (hr : ∀ σ, res σ vd = some vd) (h1 : idxD vd (.int j) = some (sp3 a)) (hx : xs.length < 1000)
    (hf : forD (riF Δ) ((intsFrom 0 j).map .int) (rv (some vd) (some (.int j)) y) [some (.lst (xs ++ [.int (cross3 a (turn3 a))]))] = some (.next, rv (some vd) (some (.int j)) y', [some (.lst ys)])) :
    roF Δ (.int j) (rv (some vd) x y) [some (.lst xs)] = some (.next, rv (some vd) (some (.int j)) y', [some (.lst ys)]) := by
  have hM : maxLen = 1048576 := rfl
  have hx1 : xs.length < maxLen := by omega
  have c1 := hΔ.cross a (turn3 a) (spot_bd ha).1 (spot_bd ha).2
  have c3 := hΔ.turn a
  have p2 : D.pures [sp3 a, sp3 (turn3 a)] = true := rfl
  have p3 : D.pures [sp3 a] = true := rfl
  have s1 : exS Δ 196 (.expr (.append (.var 1) (.call 3 [(.idx (.var 0) (.var 2)), (.call 1 [(.idx (.var 0) (.var 2))])]))) (rv (some vd) (some (.int j)) y) [some (.lst xs)] = some (.next, rv (some vd) (some (.int j)) y, [some (.lst (xs ++ [.int (cross3 a (turn3 a))]))]) := by
    simp [rv, exS, evE, evEs, isLst, hr, h1, p2, p3, c1, c3, hx1]
  have hi : itE Δ 194 (.bi .range [(.var 2)]) (rv (some vd) (some (.int j)) y) [some (.lst (xs ++ [.int (cross3 a (turn3 a))]))] = some ((intsFrom 0 j).map .int, [some (.lst (xs ++ [.int (cross3 a (turn3 a))]))]) := by
    have := itE_range1 (Δ := Δ) (n := 193) (e := .var 2) (vars := rv (some vd) (some (.int j)) y) (σ := [some (.lst (xs ++ [.int (cross3 a (turn3 a))]))]) (σ' := [some (.lst (xs ++ [.int (cross3 a (turn3 a))]))]) (b := j) rfl (small_nat (by omega)) (by omega)
    rw [this]; simp
  have s2 : exS Δ 195 (.for (.var 3) (.bi .range [(.var 2)]) riBody) (rv (some vd) (some (.int j)) y) [some (.lst (xs ++ [.int (cross3 a (turn3 a))]))] = some (.next, rv (some vd) (some (.int j)) y', [some (.lst ys)]) := by
    rw [← hf]
    simp only [exS, hi, Option.bind_some]; rfl
  show (asgT (.var 2) (.int j) _).bind _ = _
  rw [show asgT (.var 2) (.int j) (rv (some vd) x y) = some (rv (some vd) (some (.int j)) y) from rfl, Option.bind_some]
  exact (exSs_cons s1).trans (exSs_one s2)

theorem runs_ok {Δ : Dl} (hΔ : RunDl Δ) {ss : List (Int × Int)} (h2 : 2 ≤ ss.length) (h3 : ss.length ≤ 3) (hm : ∀ s ∈ ss, s ∈ spots3) : runP Δ 200 flawruns [.lst (ss.map sp3)] = some (.lst ((runs3 ss).map fun (r : Nat) => .int r)) := by
  have hM : maxLen = 1048576 := rfl
  -- the numbers
  obtain ⟨y, hf⟩ : ∃ y, forD (roF Δ) ((intsFrom 0 ss.length).map .int) (rv (some (.lst (ss.map sp3))) none none) [some (.lst [])] = some (.next, y, [some (.lst ((told ss).map .int))]) ∧ ∃ p q, y = rv (some (.lst (ss.map sp3))) p q := by
    match ss, h2, h3, hm with
    | [a, b], _, _, hm =>
      have ha := hm a (by simp)
      have hb := hm b (by simp)
      have e0 := ro_step hΔ (vd := .lst [sp3 a, sp3 b]) (j := 0) (x := none) (y := none) (y' := none) (a := a) (xs := []) (by omega) ha (fun _ => rfl) rfl (by simp) rfl
      have e10 := ri_step hΔ (vd := .lst [sp3 a, sp3 b]) (i := 0) (j := 1) (x := none) (a := a) (b := b) (xs := [.int (cross3 a (turn3 a)), .int (cross3 b (turn3 b))]) ha (fun _ => rfl) rfl rfl (by simp)
      have e1 := ro_step hΔ (vd := .lst [sp3 a, sp3 b]) (j := 1) (x := some (.int 0)) (y := none) (y' := some (.int 0)) (a := b) (xs := [.int (cross3 a (turn3 a))]) (by omega) hb (fun _ => rfl) rfl (by simp) (by
        show forD (riF Δ) [.int 0] _ _ = _
        simp only [forD, List.cons_append, List.nil_append]; rw [show ((1 : Nat) : Int) = 1 from rfl, e10])
      refine ⟨rv (some (.lst [sp3 a, sp3 b])) (some (.int 1)) (some (.int 0)), ?_, _, _, rfl⟩
      show forD (roF Δ) [.int 0, .int 1] _ _ = _
      have e0' : roF Δ (.int 0) (rv (some (.lst [sp3 a, sp3 b])) none none) [some (.lst [])] = some (.next, rv (some (.lst [sp3 a, sp3 b])) (some (.int 0)) none, [some (.lst [.int (cross3 a (turn3 a))])]) := e0
      have e1' : roF Δ (.int 1) (rv (some (.lst [sp3 a, sp3 b])) (some (.int 0)) none) [some (.lst [.int (cross3 a (turn3 a))])] = some (.next, rv (some (.lst [sp3 a, sp3 b])) (some (.int 1)) (some (.int 0)), [some (.lst ((told [a, b]).map .int))]) := e1
      simp only [forD, List.map_cons, List.map_nil, e0', e1']
    | [a, b, c], _, _, hm =>
      have ha := hm a (by simp)
      have hb := hm b (by simp)
      have hc := hm c (by simp)
      have e0 := ro_step hΔ (vd := .lst [sp3 a, sp3 b, sp3 c]) (j := 0) (x := none) (y := none) (y' := none) (a := a) (xs := []) (by omega) ha (fun _ => rfl) rfl (by simp) rfl
      have e10 := ri_step hΔ (vd := .lst [sp3 a, sp3 b, sp3 c]) (i := 0) (j := 1) (x := none) (a := a) (b := b) (xs := [.int (cross3 a (turn3 a)), .int (cross3 b (turn3 b))]) ha (fun _ => rfl) rfl rfl (by simp)
      have e1 := ro_step hΔ (vd := .lst [sp3 a, sp3 b, sp3 c]) (j := 1) (x := some (.int 0)) (y := none) (y' := some (.int 0)) (a := b) (xs := [.int (cross3 a (turn3 a))]) (by omega) hb (fun _ => rfl) rfl (by simp) (by
        show forD (riF Δ) [.int 0] _ _ = _
        simp only [forD, List.cons_append, List.nil_append]; rw [show ((1 : Nat) : Int) = 1 from rfl, e10])
      have e20 := ri_step hΔ (vd := .lst [sp3 a, sp3 b, sp3 c]) (i := 0) (j := 2) (x := some (.int 0)) (a := a) (b := c) (xs := (told2 a b).map .int ++ [.int (cross3 c (turn3 c))]) ha (fun _ => rfl) rfl rfl (by simp [told2])
      have e21 := ri_step hΔ (vd := .lst [sp3 a, sp3 b, sp3 c]) (i := 1) (j := 2) (x := some (.int 0)) (a := b) (b := c) (xs := (told2 a b).map .int ++ [.int (cross3 c (turn3 c))] ++ [.int (cross3 a c), .int (cross3 a (turn3 c))]) hb (fun _ => rfl) rfl rfl (by simp [told2])
      have e2 := ro_step hΔ (vd := .lst [sp3 a, sp3 b, sp3 c]) (j := 2) (x := some (.int 1)) (y := some (.int 0)) (y' := some (.int 1)) (a := c) (xs := (told2 a b).map .int) (ys := (told3 a b c).map .int) (by omega) hc (fun _ => rfl) rfl (by simp [told2]) (by
        show forD (riF Δ) [.int 0, .int 1] _ _ = _
        simp only [forD]; rw [show ((2 : Nat) : Int) = 2 from rfl, e20]; simp only [e21]; rfl)
      refine ⟨rv (some (.lst [sp3 a, sp3 b, sp3 c])) (some (.int 2)) (some (.int 1)), ?_, _, _, rfl⟩
      show forD (roF Δ) [.int 0, .int 1, .int 2] _ _ = _
      have e0' : roF Δ (.int 0) (rv (some (.lst [sp3 a, sp3 b, sp3 c])) none none) [some (.lst [])] = some (.next, rv (some (.lst [sp3 a, sp3 b, sp3 c])) (some (.int 0)) none, [some (.lst [.int (cross3 a (turn3 a))])]) := e0
      have e1' : roF Δ (.int 1) (rv (some (.lst [sp3 a, sp3 b, sp3 c])) (some (.int 0)) none) [some (.lst [.int (cross3 a (turn3 a))])] = some (.next, rv (some (.lst [sp3 a, sp3 b, sp3 c])) (some (.int 1)) (some (.int 0)), [some (.lst ((told2 a b).map .int))]) := e1
      have e2' : roF Δ (.int 2) (rv (some (.lst [sp3 a, sp3 b, sp3 c])) (some (.int 1)) (some (.int 0))) [some (.lst ((told2 a b).map .int))] = some (.next, rv (some (.lst [sp3 a, sp3 b, sp3 c])) (some (.int 2)) (some (.int 1)), [some (.lst ((told [a, b, c]).map .int))]) := e2
      simp only [List.map_cons, List.map_nil]
      simp only [forD, e0', e1', e2']
  obtain ⟨hf, p, q, rfl⟩ := hf
  have hbody : flawruns.body = [.asg [(.var 1)] (.lst []), .for (.var 2) (.bi .range [(.bi .len [(.var 0)])]) roBody, .ret (.comp [none, none, none] (.bi .abs [(.var 1)]) (.var 1) (.var 1) [(.cmp .NotEq (.var 1) (.lit (.int 0)))])] := rfl
  have hpp : D.pures (ss.map sp3) = true := pures_map sp3 (fun _ => rfl) _
  refine Rets.run ?_ rfl (by simp [D.pures, D.pure, hpp]) (by simp only [D.pure]; exact pures_map _ (fun _ => rfl) _)
  rw [hbody]
  show Rets Δ 200 _ [some (.lst (ss.map sp3)), none, none, none, none, none, none, none] [] _
  have hlen : biD .len [.lst (ss.map sp3)] = some (.int ss.length) := by
    have : ss.length ≤ maxLen := by omega
    simp [biD, this]
  have hi : itE Δ 197 (.bi .range [(.bi .len [(.var 0)])]) (rv (some (.lst (ss.map sp3))) none none) [some (.lst [])] = some ((intsFrom 0 ss.length).map .int, [some (.lst [])]) := by
    have := itE_range1 (Δ := Δ) (n := 196) (e := .bi .len [(.var 0)]) (vars := rv (some (.lst (ss.map sp3))) none none) (σ := [some (.lst [])]) (σ' := [some (.lst [])]) (b := ss.length) (by simp [evEs, evE, evs, ress, hlen]) (small_nat (by omega)) (by omega)
    rw [this]; simp
  refine .step (σ' := [some (.lst [])]) (exS_asg1 (d := .loc 0) rfl rfl) (.step (vars' := rv (some (.lst (ss.map sp3))) p q) (σ' := [some (.lst ((told ss).map .int))]) ?_ ?_)
  · rw [← hf]
    show (itE Δ 197 _ (rv (some (.lst (ss.map sp3))) none none) [some (.lst [])]).bind _ = _
    rw [hi]; rfl
  · have hl : ((told ss).map D.int).length ≤ maxLen := by
      have : (told ss).length ≤ 9 := by
        match ss with
        | [] => simp [told]
        | [_] => simp [told]
        | [a, b] => simp [told, told2]
        | [a, b, c] => simp [told, told3]
        | _ :: _ :: _ :: _ :: _ => simp [told]
      simp; omega
    have hit : itE Δ 195 (.var 1) (rv (some (.lst (ss.map sp3))) p q) [some (.lst ((told ss).map .int))] = some ((told ss).map .int, [none]) := by
      have : ((told ss).map D.int).length ≤ maxLen := hl
      simp [itE, evE, frz, MObj.toD, itemsOf] at this ⊢
      exact this
    have hev : evE Δ 196 (.comp [none, none, none] (.bi .abs [(.var 1)]) (.var 1) (.var 1) [(.cmp .NotEq (.var 1) (.lit (.int 0)))]) (rv (some (.lst (ss.map sp3))) p q) [some (.lst ((told ss).map .int))] = some (.lst ((runs3 ss).map fun (r : Nat) => .int r), [none]) := by
      refine evE_comp hit rfl hl ?_
      refine (compD_ints (fun vs => ∃ x, vs = [none, x, none]) (fun i => !(i == 0)) (fun i => .int (if i < 0 then -i else i)) ?_ ⟨none, rfl⟩).trans ?_
      · rintro i hi vs ⟨x, rfl⟩
        refine ⟨[none, some (.int i), none], ?_, ⟨_, rfl⟩⟩
        by_cases h0 : i = 0
        · subst h0
          simp [asgT, setVar, tesE, trE, evE, evs]
        · simp [asgT, setVar, tesE, trE, evE, evEs, ress, evs, biD, h0]
      · have : (List.map (fun i : Int => D.int (if i < 0 then -i else i)) (List.filter (fun i => !(i == 0)) (told ss))) = (runs3 ss).map fun (r : Nat) => D.int r := by
          simp only [runs3, List.map_map]
          apply List.map_congr_left
          intro i _
          simp only [Function.comp]
          congr 1
          by_cases h : i < 0
          · simp only [h, if_true]; omega
          · simp only [h, if_false]; omega
        rw [this]
    exact ⟨_, _, exSs_ret (by simp only [exS, hev, Option.bind_some]; rfl)⟩
end Ev
end
section
set_option maxRecDepth 100000
set_option autoImplicit false
set_option linter.all false
set_option maxHeartbeats 8000000
namespace Ev
open PySem
/-! the whole sizes -/
theorem div_pred {i r : Nat} (hi : 1 ≤ i) (hr : 1 ≤ r) : ((r / i : Nat) : Int) - (((r - 1) / i : Nat) : Int) = if i ∣ r then 1 else 0 := by
  by_cases h : i ∣ r
  · obtain ⟨q, rfl⟩ := h
    have hq : 1 ≤ q := by
      rcases Nat.eq_zero_or_pos q with h0 | h0
      · subst h0; simp at hr
      · exact h0
    have e1 : i * q / i = q := Nat.mul_div_cancel_left q (by omega)
    have e2 : (i * q - 1) / i = q - 1 := by
      obtain ⟨k, rfl⟩ : ∃ k, q = k + 1 := ⟨q - 1, by omega⟩
      apply Nat.div_eq_of_lt_le
      · rw [Nat.mul_comm i]; simp only [Nat.add_sub_cancel, Nat.add_mul]; omega
      · rw [Nat.mul_comm i]; simp only [Nat.add_sub_cancel, Nat.add_mul]; omega
    rw [e1, e2, if_pos ⟨q, rfl⟩]; omega
  · have e : (r - 1) / i = r / i := by
      have h1 := Nat.div_add_mod r i
      have h2 := Nat.mod_lt r (show 0 < i by omega)
      have h3 : r % i ≠ 0 := fun q => h (Nat.dvd_of_mod_eq_zero q)
      generalize r / i = q at *
      apply Nat.div_eq_of_lt_le
      · rw [Nat.mul_comm]; omega
      · rw [Nat.add_mul, Nat.mul_comm q]; omega
    rw [e, if_neg h]; omega
theorem rsum_pred {i : Nat} (hi : 1 ≤ i) : ∀ (runs : List Nat), (∀ r ∈ runs, 1 ≤ r) → 0 ≤ rsum (fun r => ((r / i : Nat) : Int)) runs - rsum (fun r => ((r / i : Nat) : Int)) (runs.map (· - 1)) ∧ rsum (fun r => ((r / i : Nat) : Int)) runs - rsum (fun r => ((r / i : Nat) : Int)) (runs.map (· - 1)) ≤ runs.length ∧ (rsum (fun r => ((r / i : Nat) : Int)) runs - rsum (fun r => ((r / i : Nat) : Int)) (runs.map (· - 1)) = runs.length ↔ ∀ r ∈ runs, i ∣ r)
  | [], _ => by simp [rsum]
  | r :: runs, h => by
    obtain ⟨h1, h2, h3⟩ := rsum_pred hi runs (fun q hq => h q (by simp [hq]))
    have hd := div_pred hi (h r (by simp))
    simp only [rsum, List.map_cons, List.length_cons, List.mem_cons, forall_eq_or_imp]
    rw [← h3]
    by_cases hr : i ∣ r
    · rw [if_pos hr] at hd
      refine ⟨by omega, by omega, ?_⟩
      constructor
      · intro q; exact ⟨hr, by omega⟩
      · intro q; have := q.2; omega
    · rw [if_neg hr] at hd
      refine ⟨by omega, by omega, ?_⟩
      constructor
      · intro q; exfalso; omega
      · intro q; exact absurd q.1 hr
/-- the indent level of a lead without blanks behind -/
def ilv (runs : List Nat) (i : Int) : Int := 0 + (i.toNat : Int) * (rsum (fun r => ((r / i.toNat : Nat) : Int)) runs + runs.length)
theorem whole_eq {runs : List Nat} {N : Int} {m : Nat} (h1 : ∀ r ∈ runs, 1 ≤ r) (hne : runs ≠ []) (hN : 1 ≤ N) (hm : N ≤ m) (hd : ∀ d : Nat, (∀ r ∈ runs, d ∣ r) ↔ (d : Int) ∣ N) :
    ((intsFrom 1 m).filter (fun i => ilv runs i != ilv (runs.map (· - 1)) i)).filter (fun i => ilv runs i - ilv (runs.map (· - 1)) i == i * runs.length) = (intsFrom 1 N.toNat).filter (fun i => N.fmod i == 0) := by
  have key : ∀ i : Int, 1 ≤ i → ((ilv runs i - ilv (runs.map (· - 1)) i == i * runs.length) && (ilv runs i != ilv (runs.map (· - 1)) i)) = (N.fmod i == 0) := by
    intro i hi
    obtain ⟨k, rfl⟩ : ∃ k : Nat, i = k := ⟨i.toNat, by omega⟩
    obtain ⟨a1, a2, a3⟩ := rsum_pred (i := k) (by omega) runs h1
    have hl : 1 ≤ runs.length := List.length_pos_iff.mpr hne
    have e : ilv runs k - ilv (runs.map (· - 1)) k = k * (rsum (fun r => ((r / k : Nat) : Int)) runs - rsum (fun r => ((r / k : Nat) : Int)) (runs.map (· - 1))) := by
      simp only [ilv, Int.toNat_natCast, List.length_map]
      rw [Int.mul_sub, Int.mul_add, Int.mul_add]; omega
    have hfm : (N.fmod k = 0) ↔ (k : Int) ∣ N := (Int.dvd_iff_fmod_eq_zero).symm
    rw [Bool.eq_iff_iff]
    simp only [Bool.and_eq_true, beq_iff_eq, bne_iff_ne, hfm, ← hd k, ← a3]
    generalize rsum (fun r => ((r / k : Nat) : Int)) runs - rsum (fun r => ((r / k : Nat) : Int)) (runs.map (· - 1)) = t at *
    constructor
    · rintro ⟨q, _⟩
      rw [e] at q
      exact Int.eq_of_mul_eq_mul_left (by omega) q
    · intro q
      rw [e, q]
      refine ⟨rfl, fun z => ?_⟩
      have h0 : (k : Int) * (runs.length : Int) = 0 := by rw [← q, ← e, z]; omega
      have : 0 < (k : Int) * (runs.length : Int) := Int.mul_pos (by omega) (by omega)
      omega
  rw [List.filter_filter]
  obtain ⟨j, hj⟩ : ∃ j, m = N.toNat + j := ⟨m - N.toNat, by omega⟩
  rw [hj, intsFrom_app, List.filter_append]
  have e2 : (intsFrom (1 + (N.toNat : Int)) j).filter (fun a => (ilv runs a - ilv (runs.map (· - 1)) a == a * runs.length) && (ilv runs a != ilv (runs.map (· - 1)) a)) = [] := by
    rw [List.filter_eq_nil_iff]
    intro a ha
    have := (mem_intsFrom.mp ha).1
    rw [key a (by omega)]
    simp only [beq_iff_eq]
    intro q
    have h0 := Int.dvd_iff_fmod_eq_zero.mpr q
    have := Int.le_of_dvd (by omega) h0
    omega
  rw [e2, List.append_nil]
  apply List.filter_congr
  intro a ha
  exact key a (mem_intsFrom.mp ha).1
/-! the short defs -/
theorem turned_ok {Δ : Dl} (s : Int × Int) : runP Δ 200 flawturned [sp3 s] = some (sp3 (turn3 s)) := rfl
theorem cross_ok {Δ : Dl} (s t : Int × Int) (h1 : -1000 ≤ s.1 ∧ s.1 ≤ 1000) (h2 : -1000 ≤ s.2 ∧ s.2 ≤ 1000) : runP Δ 200 flawcross [sp3 s, sp3 t] = some (.int (cross3 s t)) := by
  have a := small_of (i := s.1) (by omega)
  have b := small_of (i := s.2) (by omega)
  refine Rets.run ?_ rfl rfl rfl
  show Rets Δ 200 flawcross.body [some (sp3 s), some (sp3 t)] [] _
  exact .ret (x := .int (cross3 s t)) (by simp [evE, evs, sp3, idxD, sml, a, b, cross3]) rfl
theorem lead_ok {Δ : Dl} {runs : List Nat} {W : D} (hb : ∀ r ∈ runs, r ≤ 200) (hl : runs.length ≤ 20) (hn : Δ.new (.str (leadText runs 0 [32, 9])) = some W) (hp : W.pure = true) (hf : ∀ σ, frz σ W = some (W, σ)) : runP Δ 200 flawlead [.lst (runs.map fun (r : Nat) => .int r)] = some W := by
  have hM : maxLen = 1048576 := rfl
  refine Rets.run ?_ rfl (by simp only [D.pures, D.pure, Bool.and_true]; exact pures_map _ (fun _ => rfl) _) hp
  show Rets Δ 200 flawlead.body [some (.lst (runs.map fun (r : Nat) => .int r)), none] [] _
  refine .ret (x := W) ?_ (hf _)
  have hit : itE Δ 194 (.var 0) [some (.lst (runs.map fun (r : Nat) => .int r)), none] [] = some (runs.map fun (r : Nat) => .int r, []) := by
    have : (runs.map fun (r : Nat) => D.int r).length ≤ maxLen := by simp; omega
    simp only [itE, evE]
    simp [evs, itemsOf] at this ⊢
    exact this
  have hc : evE Δ 195 (.comp [none, none] (.bin .Add (.bin .Mult (.lit (.str [32])) (.var 1)) (.lit (.str [9]))) (.var 1) (.var 0) []) [some (.lst (runs.map fun (r : Nat) => .int r)), none] [] = some (.lst ((runs.map fun r => List.replicate r 32 ++ [9]).map .str), []) := by
    refine evE_comp hit rfl (by simp; omega) ?_
    rw [List.map_map]
    refine compD_map (fun (r : Nat) => D.int r) _ (fun vs => ∃ x, vs = [none, x]) ?_ ⟨none, rfl⟩
    rintro r hr vs ⟨x, rfl⟩
    have h1 := hb r hr
    have h2 := runStr (i := r) (by omega)
    have h3 : r + 1 ≤ maxLen := by omega
    refine ⟨[none, some (.int r)], ?_, ⟨_, rfl⟩⟩
    simp only [Int.toNat_natCast] at h2
    simp [asgT, setVar, tesE, evE, evs, h2, h3]
  have hlen := runText_len runs 200 hb
  have hlen2 : runs.length * (200 + 1) ≤ 20 * 201 := Nat.mul_le_mul hl (by omega)
  have e : leadText runs 0 [32, 9] = runText runs ++ [120, 32, 9] := by simp [leadText]
  rw [e] at hn
  refine evE_new (evE_addS (evE_join rfl hc ((joinD_nil _).trans (by rw [runText_flatten])) ?_) rfl ?_) rfl hn
  · simp; omega
  · simp; omega
end Ev
end
section
set_option maxRecDepth 100000
set_option autoImplicit false
set_option linter.all false
set_option maxHeartbeats 8000000
namespace Ev
open PySem
theorem code_ok' (j : Nat) (c : Int) : spotOf (c.fmod 120) ∈ spots3 ∧ runP (lev T3 true false (j + 2)) 200 flawspot [.int (c.fmod 120)] = some (sp3 (spotOf (c.fmod 120))) := by
  have hm : c.fmod 120 ∈ intsFrom 0 120 := mem_intsFrom.mpr ⟨Int.fmod_nonneg_of_pos _ (by decide), by have := Int.fmod_lt_of_pos c (show (0 : Int) < 120 by decide); omega⟩
  have := List.all_eq_true.mp (codes3 j) _ hm
  simp only [Bool.and_eq_true, isSpot_mem] at this
  exact ⟨this.2, isSp_of this.1⟩
/-- the codes -/
theorem first3 {Δ : Dl} {zs : List Int} (h : zs.length ≤ 63) : ∃ codes : List Int, 2 ≤ codes.length ∧ codes.length ≤ 3 ∧ exS Δ 200 (.asg [.var 1] e3) (startVars flaw [.lst (zs.map .int)]) [] = some (.next, [some (.lst (zs.map .int)), some (.loc 0), none, none, none, none, none, none, none, none, none, none, none, none, none, none, none, none, none, none, none, none, none, none], [some (.lst (codes.map .int))]) := by
  have hM : maxLen = 1048576 := rfl
  obtain ⟨y0, s0⟩ := sli_ints (zs := zs) (lo := some 0) (hi := some 1) (st := none) (by omega) (by simp)
  obtain ⟨y1, s1⟩ := sli_ints (zs := zs) (lo := some 1) (hi := some 2) (st := none) (by omega) (by simp)
  obtain ⟨y2, s2, l2⟩ := sli_one (zs := zs) (by omega) 2
  refine ⟨[2 + sumInts y0, 91 + sumInts y1] ++ y2, by simp, by simp; omega, ?_⟩
  show exS Δ 200 (.asg [.var 1] e3) [some (.lst (zs.map .int)), none, none, none, none, none, none, none, none, none, none, none, none, none, none, none, none, none, none, none, none, none, none, none] [] = _
  refine exS_asg1 (d := .loc 0) ?_ rfl
  have hc : evE Δ 198 (.comp [none, none, none, none, some 0] (.bin .Add (.var 2) (.bi .sum [(.sli (.var 4) (some (.var 1)) (some (.bin .Add (.var 1) (.lit (.int 1)))) none)])) (.tup [1, 2]) (.bi .enumerate [(.lst [(.lit (.int 2)), (.lit (.int 91))])]) []) [some (.lst (zs.map .int)), none, none, none, none, none, none, none, none, none, none, none, none, none, none, none, none, none, none, none, none, none, none, none] [] = some (.lst ([2 + sumInts y0, 91 + sumInts y1].map .int), []) := by
    refine evE_comp (ds := [.tup [.int 0, .int 2], .tup [.int 1, .int 91]]) (σ' := []) ?_ rfl (by decide) ?_
    · simp [itE, evE, evEs, evs, enumD, show 2 ≤ maxLen by decide]
    · simp [capture, compD, asgT, setVars, setVar, tesE, evE, evEs, evO, ress, evs, s0, s1, sum_ints]
  have hs : evE Δ 198 (.sli (.var 0) (some (.lit (.int 2))) (some (.lit (.int 3))) none) [some (.lst (zs.map .int)), none, none, none, none, none, none, none, none, none, none, none, none, none, none, none, none, none, none, none, none, none, none, none] [] = some (.lst (y2.map .int), []) := by
    have s2' : sliD (.lst (zs.map .int)) (some 2) (some 3) none = some (.lst (y2.map .int)) := s2
    simp [evE, evO, evs, s2']
  show evE Δ 199 (.bin .Add _ _) _ _ = _
  rw [evE, hc]
  simp only [Option.bind_some, hs, evs]
  have : (List.map D.int [2 + sumInts y0, 91 + sumInts y1]).length + (List.map D.int y2).length ≤ maxLen := by simp; omega
  simp only [this, if_true, List.map_append]
  rfl
end Ev
end
section
set_option maxRecDepth 100000
set_option autoImplicit false
set_option linter.all false
set_option maxHeartbeats 8000000
namespace Ev
open PySem
def W3 (runs : List Nat) : D := wsInst (leadText runs 0 [32, 9]) (runs.foldl bump []) ((0 : Nat) : Int) ((runSum runs + 0 : Nat) : Int) ((runs.length : Nat) : Int)
theorem W3_pure (runs : List Nat) : (W3 runs).pure = true := by simp [W3, wsInst, D.pure, D.purea, D.pures, pures_ints]
structure LawDl (Δ : Dl) : Prop where
  run : RunDl Δ
  spot : ∀ c : Int, spotOf (c.fmod 120) ∈ spots3 ∧ Δ.fns 2 [.int (c.fmod 120)] = some (sp3 (spotOf (c.fmod 120)))
  name : ∀ s g, s ∈ spots3 → 0 ≤ g ∧ g < 4 → Δ.fns 4 [sp3 s, .int g] = some (nm3 s)
  back : ∀ r p, 1 ≤ r ∧ r ≤ 1000000 → Δ.fns 5 [.int r, .int p] = some (sp3 (back3 r p))
  common : ∀ g ss, 0 ≤ g ∧ g < 4 → 2 ≤ ss.length → ss.length ≤ 3 → (∀ s ∈ ss, s ∈ spots3) → ∃ s, s ∈ spots3 ∧ SameI ss [s] ∧ Δ.fns 6 [.lst (ss.map nm3), .int g] = some (nm3 s)
  runs : ∀ ss, 2 ≤ ss.length → ss.length ≤ 3 → (∀ s ∈ ss, s ∈ spots3) → Δ.fns 7 [.lst (ss.map sp3)] = some (.lst ((runs3 ss).map fun (r : Nat) => .int r))
  lead : ∀ rs : List Nat, (∀ r ∈ rs, r ≤ 200) → rs.length ≤ 20 → Δ.fns 8 [.lst (rs.map fun (r : Nat) => .int r)] = some (W3 rs)
  wit : ∀ rs rs' : List Nat, (∀ r ∈ rs, r ≤ 200) → (∀ r ∈ rs', r ≤ 200) → ∃ m : Nat, longest rs ≤ m ∧ m ≤ 20000 ∧ Δ.fns 102 [W3 rs, W3 rs'] = some (.lst (((intsFrom 1 m).filter (fun i => ilv rs i != ilv rs' i)).map fun i => tup3 i (ilv rs i) (ilv rs' i)))
abbrev lv (a0 a1 a2 a3 a4 a5 a6 a7 a8 a9 a10 a11 a12 a13 a14 : Option D) : Vars := [a0, a1, a2, a3, a4, a5, a6, a7, a8, a9, a10, a11, a12, a13, a14, none, none, none, none, none, none, none, none, none]
theorem law3 {Δ : Dl} (hΔ : LawDl Δ) {zs codes : List Int} (hz : zs.length ≤ 63) (h2 : 2 ≤ codes.length) (h3 : codes.length ≤ 3) : Rets Δ 200 r3 (lv (some (.lst (zs.map .int))) (some (.loc 0)) none none none none none none none none none none none none none) [some (.lst (codes.map .int))] (.bool true) := by
  have hM : maxLen = 1048576 := rfl
  obtain ⟨ss, hss⟩ : ∃ ss : List (Int × Int), ss = codes.map fun c => spotOf (c.fmod 120) := ⟨_, rfl⟩
  have hm : ∀ s ∈ ss, s ∈ spots3 := by
    rw [hss]; intro s hs
    obtain ⟨c, _, rfl⟩ := List.mem_map.mp hs
    exact (hΔ.spot c).1
  have l2 : 2 ≤ ss.length := by rw [hss]; simpa using h2
  have l3 : ss.length ≤ 3 := by rw [hss]; simpa using h3
  obtain ⟨ys, hys⟩ := sli_ints (zs := zs) (lo := none) (hi := some 3) (st := none) (by omega) (by simp)
  obtain ⟨g, hg⟩ : ∃ g, g = (sumInts ys).fmod 4 := ⟨_, rfl⟩
  have hg4 : 0 ≤ g ∧ g < 4 := by
    rw [hg]; exact ⟨Int.fmod_nonneg_of_pos _ (by decide), Int.fmod_lt_of_pos _ (by decide)⟩
  obtain ⟨L, hL, hI, hcom⟩ := hΔ.common g ss hg4 l2 l3 hm
  obtain ⟨gl1, gl2, gl3, gl4, gl5⟩ := geo_ok hL
  have nL := norm_pos hL
  generalize hA : some (D.lst (zs.map .int)) = A
  generalize hS : D.lst (ss.map sp3) = S
  have rS : ∀ σ, res σ S = some S := fun σ => by rw [← hS]; rfl
  have lmax : ss.length ≤ maxLen := by omega
  -- the spots
  have s2 : exS Δ 199 (.asg [(.var 2)] (.comp [none, none, none] (.call 2 [(.bin .Mod (.var 1) (.lit (.int 120)))]) (.var 1) (.var 1) [])) (lv A (some (.loc 0)) none none none none none none none none none none none none none) [some (.lst (codes.map .int))] = some (.next, lv A (some (.loc 0)) (some S) none none none none none none none none none none none none, [none]) := by
    refine exS_asg1 (d := S) (evE_comp (ds := codes.map .int) (σ' := [none]) ?_ rfl (by simp; omega) ?_ |>.trans (by rw [← hS])) rfl
    · have : codes.length ≤ maxLen := by omega
      simp [itE, evE, frz, MObj.toD, itemsOf, this]
    · rw [hss, List.map_map]
      refine compD_map D.int _ (fun vs => ∃ x, vs = [none, x, none]) ?_ ⟨none, rfl⟩
      rintro c _ vs ⟨x, rfl⟩
      refine ⟨[none, some (.int c), none], ?_, ⟨_, rfl⟩⟩
      have e := evE_call (Δ := Δ) (n := 196) (f := 2) (es := [(.bin .Mod (.var 1) (.lit (.int 120)))]) (vars := [none, some (.int c), none]) (σ := [none]) (σ' := [none]) (ds := [.int (c.fmod 120)]) (by simp [evEs, evE, evs]) rfl (hΔ.spot c).2
      show (asgT (.var 1) (.int c) _).bind _ = _
      rw [show asgT (.var 1) (.int c) [none, x, none] = some [none, some (.int c), none] from rfl, Option.bind_some]
      simp only [tesE, Option.bind_some, if_true, e, Option.map_some]
      rfl
  have s3 : exS Δ 198 (.asg [(.var 3)] (.bin .Mod (.bi .sum [(.sli (.var 0) none (some (.lit (.int 3))) none)]) (.lit (.int 4)))) (lv A (some (.loc 0)) (some S) none none none none none none none none none none none none) [none] = some (.next, lv A (some (.loc 0)) (some S) (some (.int g)) none none none none none none none none none none none, [none]) := by
    refine exS_asg1 (d := .int g) ?_ rfl
    rw [hg, ← hA]
    simp [evE, evEs, evO, ress, evs, hys, sum_ints]
  have s4 : exS Δ 197 (.asg [(.var 5)] (.comp [none, none, none, some 3] (.call 4 [(.var 1), (.var 3)]) (.var 1) (.var 2) [])) (lv A (some (.loc 0)) (some S) (some (.int g)) none none none none none none none none none none none) [none] = some (.next, lv A (some (.loc 0)) (some S) (some (.int g)) none (some (.lst (ss.map nm3))) none none none none none none none none none, [none]) := by
    refine exS_asg1 (d := .lst (ss.map nm3)) (evE_comp (ds := ss.map sp3) (σ' := [none]) ?_ rfl (by simp; omega) ?_) rfl
    · rw [← hS]; simp [itE, evE, evs, itemsOf, lmax]
    · refine compD_map sp3 _ (fun vs => ∃ x, vs = [none, x, none, some (.int g)]) ?_ ⟨none, rfl⟩
      rintro c hc vs ⟨x, rfl⟩
      refine ⟨[none, some (sp3 c), none, some (.int g)], ?_, ⟨_, rfl⟩⟩
      have e := evE_call (Δ := Δ) (n := 194) (f := 4) (es := [(.var 1), (.var 3)]) (vars := [none, some (sp3 c), none, some (.int g)]) (σ := [none]) (σ' := [none]) (ds := [sp3 c, .int g]) rfl rfl (hΔ.name c g (hm c hc) hg4)
      show (asgT (.var 1) (sp3 c) _).bind _ = _
      rw [show asgT (.var 1) (sp3 c) [none, x, none, some (.int g)] = some [none, some (sp3 c), none, some (.int g)] from rfl, Option.bind_some]
      simp only [tesE, Option.bind_some, if_true, e, Option.map_some]
  have hcs : cmpD .NotEq S S = some false := by
    rw [← hS]; exact (cmp_same sp3 (fun a => by simp [sp3, eqD, eqDs]) ss).2
  have hds : S.dep ≤ 50 := by
    rw [← hS]
    have := deps_map sp3 (k := 1) (fun a => by simp [sp3, D.dep, D.deps]) ss
    simp only [D.dep]; omega
  have s5 : trE Δ 195 (.cmp .NotEq (.comp [none, none, none, none, none] (.call 5 [(.var 2), (.var 3)]) (.tup [1, 2, 3]) (.var 5) []) (.var 2)) (lv A (some (.loc 0)) (some S) (some (.int g)) none (some (.lst (ss.map nm3))) none none none none none none none none none) [none] = some (false, [none]) := by
    have hc : evE Δ 193 (.comp [none, none, none, none, none] (.call 5 [(.var 2), (.var 3)]) (.tup [1, 2, 3]) (.var 5) []) (lv A (some (.loc 0)) (some S) (some (.int g)) none (some (.lst (ss.map nm3))) none none none none none none none none none) [none] = some (S, [none]) := by
      refine (evE_comp (ds := ss.map nm3) (σ' := [none]) (σ2 := [none]) (rs := ss.map sp3) ?_ rfl (by simp; omega) ?_).trans (by rw [← hS])
      · simp [itE, evE, evs, itemsOf, lmax]
      · refine compD_map nm3 _ (fun vs => ∃ x y z, vs = [none, x, y, z, none]) ?_ ⟨none, none, none, rfl⟩
        rintro c hc vs ⟨x, y, z, rfl⟩
        obtain ⟨k1, k2, k3, k4, k5⟩ := geo_ok (hm c hc)
        refine ⟨[none, some (.int (-norm3 c)), some (.int (ring3 c)), some (.int (place3 c)), none], ?_, ⟨_, _, _, rfl⟩⟩
        have e := evE_call (Δ := Δ) (n := 191) (f := 5) (es := [(.var 2), (.var 3)]) (vars := [none, some (.int (-norm3 c)), some (.int (ring3 c)), some (.int (place3 c)), none]) (σ := [none]) (σ' := [none]) (ds := [.int (ring3 c), .int (place3 c)]) rfl rfl (hΔ.back _ _ (by omega))
        show (asgT (.tup [1, 2, 3]) (nm3 c) _).bind _ = _
        rw [show asgT (.tup [1, 2, 3]) (nm3 c) [none, x, y, z, none] = some [none, some (.int (-norm3 c)), some (.int (ring3 c)), some (.int (place3 c)), none] from rfl, Option.bind_some]
        simp only [tesE, Option.bind_some, if_true, e, Option.map_some, k1]
    have h5 : evE Δ 193 (.var 2) (lv A (some (.loc 0)) (some S) (some (.int g)) none (some (.lst (ss.map nm3))) none none none none none none none none none) [none] = some (S, [none]) := rfl
    exact trE_cmp (evE_ne hc h5 (rS _) (rS _) hds hcs)
  have s6 : exS Δ 195 (.asg [(.tup [6, 7, 8])] (.call 6 [(.var 5), (.var 3)])) (lv A (some (.loc 0)) (some S) (some (.int g)) none (some (.lst (ss.map nm3))) none none none none none none none none none) [none] = some (.next, lv A (some (.loc 0)) (some S) (some (.int g)) none (some (.lst (ss.map nm3))) (some (.int (-norm3 L))) (some (.int (ring3 L))) (some (.int (place3 L))) none none none none none none, [none]) :=
    exS_asgs (d := nm3 L) (evE_call (ds := [.lst (ss.map nm3), .int g]) rfl (by simp [D.pures, D.pure, nms_pure]) hcom) rfl
  have s7 : exS Δ 194 (.asg [(.var 9)] (.call 5 [(.var 7), (.var 8)])) (lv A (some (.loc 0)) (some S) (some (.int g)) none (some (.lst (ss.map nm3))) (some (.int (-norm3 L))) (some (.int (ring3 L))) (some (.int (place3 L))) none none none none none none) [none] = some (.next, lv A (some (.loc 0)) (some S) (some (.int g)) none (some (.lst (ss.map nm3))) (some (.int (-norm3 L))) (some (.int (ring3 L))) (some (.int (place3 L))) (some (sp3 L)) none none none none none, [none]) :=
    exS_asg1 (d := sp3 L) (evE_call (ds := [.int (ring3 L), .int (place3 L)]) rfl rfl ((hΔ.back _ _ (by omega)).trans (by rw [gl1]))) rfl
  have s8 : exS Δ 193 (.asg [(.var 10)] (.call 1 [(.var 9)])) (lv A (some (.loc 0)) (some S) (some (.int g)) none (some (.lst (ss.map nm3))) (some (.int (-norm3 L))) (some (.int (ring3 L))) (some (.int (place3 L))) (some (sp3 L)) none none none none none) [none] = some (.next, lv A (some (.loc 0)) (some S) (some (.int g)) none (some (.lst (ss.map nm3))) (some (.int (-norm3 L))) (some (.int (ring3 L))) (some (.int (place3 L))) (some (sp3 L)) (some (sp3 (turn3 L))) none none none none, [none]) :=
    exS_asg1 (d := sp3 (turn3 L)) (evE_call (ds := [sp3 L]) rfl rfl (hΔ.run.turn L)) rfl
  have bL := spot_bd hL
  have s9 : exS Δ 192 (.asg [(.var 11)] (.call 3 [(.var 9), (.var 10)])) (lv A (some (.loc 0)) (some S) (some (.int g)) none (some (.lst (ss.map nm3))) (some (.int (-norm3 L))) (some (.int (ring3 L))) (some (.int (place3 L))) (some (sp3 L)) (some (sp3 (turn3 L))) none none none none) [none] = some (.next, lv A (some (.loc 0)) (some S) (some (.int g)) none (some (.lst (ss.map nm3))) (some (.int (-norm3 L))) (some (.int (ring3 L))) (some (.int (place3 L))) (some (sp3 L)) (some (sp3 (turn3 L))) (some (.int (norm3 L))) none none none, [none]) :=
    exS_asg1 (d := .int (norm3 L)) (evE_call (ds := [sp3 L, sp3 (turn3 L)]) rfl rfl ((hΔ.run.cross L (turn3 L) bL.1 bL.2).trans (by rw [cross_self]))) rfl
  have s10 : trE Δ 190 (.cmp .NotEq (.var 11) (.bin .Sub (.lit (.int 0)) (.var 6))) (lv A (some (.loc 0)) (some S) (some (.int g)) none (some (.lst (ss.map nm3))) (some (.int (-norm3 L))) (some (.int (ring3 L))) (some (.int (place3 L))) (some (sp3 L)) (some (sp3 (turn3 L))) (some (.int (norm3 L))) none none none) [none] = some (false, [none]) := by
    simp [trE, evE, evs]
  have n0 : ¬ norm3 L = 0 := by omega
  have s11 : ∃ x4, exS Δ 190 (.for (.var 4) (.var 2) [.ite (.either (.cmp .NotEq (.bin .Mod (.call 3 [(.var 4), (.var 10)]) (.var 11)) (.lit (.int 0))) (.cmp .NotEq (.bin .Mod (.call 3 [(.var 9), (.var 4)]) (.var 11)) (.lit (.int 0)))) [.ret (.lit (.bool false))] []]) (lv A (some (.loc 0)) (some S) (some (.int g)) none (some (.lst (ss.map nm3))) (some (.int (-norm3 L))) (some (.int (ring3 L))) (some (.int (place3 L))) (some (sp3 L)) (some (sp3 (turn3 L))) (some (.int (norm3 L))) none none none) [none] = some (.next, lv A (some (.loc 0)) (some S) (some (.int g)) x4 (some (.lst (ss.map nm3))) (some (.int (-norm3 L))) (some (.int (ring3 L))) (some (.int (place3 L))) (some (sp3 L)) (some (sp3 (turn3 L))) (some (.int (norm3 L))) none none none, [none]) := by
    have hi : itE Δ 189 (.var 2) (lv A (some (.loc 0)) (some S) (some (.int g)) none (some (.lst (ss.map nm3))) (some (.int (-norm3 L))) (some (.int (ring3 L))) (some (.int (place3 L))) (some (sp3 L)) (some (sp3 (turn3 L))) (some (.int (norm3 L))) none none none) [none] = some (ss.map sp3, [none]) := by
      rw [← hS]; simp [itE, evE, evs, itemsOf, lmax]
    obtain ⟨vs', e, ⟨x4, rfl⟩⟩ := forD_all (f := fun d vars σ => (asgT (.var 4) d vars).bind fun vars => exSs Δ 189 [.ite (.either (.cmp .NotEq (.bin .Mod (.call 3 [(.var 4), (.var 10)]) (.var 11)) (.lit (.int 0))) (.cmp .NotEq (.bin .Mod (.call 3 [(.var 9), (.var 4)]) (.var 11)) (.lit (.int 0)))) [.ret (.lit (.bool false))] []] vars σ) sp3 (fun vs => ∃ x4, vs = lv A (some (.loc 0)) (some S) (some (.int g)) x4 (some (.lst (ss.map nm3))) (some (.int (-norm3 L))) (some (.int (ring3 L))) (some (.int (place3 L))) (some (sp3 L)) (some (sp3 (turn3 L))) (some (.int (norm3 L))) none none none) (σ := [none]) (l := ss) (vs := lv A (some (.loc 0)) (some S) (some (.int g)) none (some (.lst (ss.map nm3))) (some (.int (-norm3 L))) (some (.int (ring3 L))) (some (.int (place3 L))) (some (sp3 L)) (some (sp3 (turn3 L))) (some (.int (norm3 L))) none none none) (by
        rintro c hc vs ⟨x, rfl⟩
        refine ⟨lv A (some (.loc 0)) (some S) (some (.int g)) (some (sp3 c)) (some (.lst (ss.map nm3))) (some (.int (-norm3 L))) (some (.int (ring3 L))) (some (.int (place3 L))) (some (sp3 L)) (some (sp3 (turn3 L))) (some (.int (norm3 L))) none none none, ?_, ⟨_, rfl⟩⟩
        have bc := spot_bd (hm c hc)
        have c1 := hΔ.run.cross c (turn3 L) bc.1 bc.2
        have c2 := hΔ.run.cross L c bL.1 bL.2
        have mc := gcd_mul hI c hc
        have d1 := Int.dvd_iff_fmod_eq_zero.mp (mul_cross mc ((mul_idl L).turn L (mul_self L)))
        have d2 := Int.dvd_iff_fmod_eq_zero.mp (mul_cross (mul_self L) mc)
        have p1 : D.pures [sp3 c, sp3 (turn3 L)] = true := rfl
        have p2 : D.pures [sp3 L, sp3 c] = true := rfl
        show (asgT (.var 4) (sp3 c) _).bind _ = _
        rw [show asgT (.var 4) (sp3 c) (lv A (some (.loc 0)) (some S) (some (.int g)) x (some (.lst (ss.map nm3))) (some (.int (-norm3 L))) (some (.int (ring3 L))) (some (.int (place3 L))) (some (sp3 L)) (some (sp3 (turn3 L))) (some (.int (norm3 L))) none none none) = some (lv A (some (.loc 0)) (some S) (some (.int g)) (some (sp3 c)) (some (.lst (ss.map nm3))) (some (.int (-norm3 L))) (some (.int (ring3 L))) (some (.int (place3 L))) (some (sp3 L)) (some (sp3 (turn3 L))) (some (.int (norm3 L))) none none none) from rfl, Option.bind_some]
        refine exSs_one ((exS_if (t := false) (σ' := [none]) ?_).trans rfl)
        simp [trE, evE, evEs, evs, p1, p2, c1, c2, d1, d2, n0]) ⟨none, rfl⟩
    refine ⟨x4, ?_⟩
    rw [← e]
    show (itE Δ 189 (.var 2) _ _).bind _ = _
    rw [hi]; rfl
  obtain ⟨x4, s11⟩ := s11
  -- the runs
  have hrb : ∀ r ∈ runs3 ss, r ≤ 200 := by
    intro r hr
    simp only [runs3, List.mem_map, List.mem_filter] at hr
    obtain ⟨i, ⟨h1, _⟩, rfl⟩ := hr
    have := told_bound hm i h1
    omega
  have hrl : (runs3 ss).length ≤ 20 := by
    have h1 : (runs3 ss).length ≤ (told ss).length := by simp only [runs3, List.length_map]; exact List.length_filter_le _ _
    have : (told ss).length ≤ 9 := by
      match ss with
      | [] => simp [told]
      | [_] => simp [told]
      | [a, b] => simp [told, told2]
      | [a, b, c] => simp [told, told3]
      | _ :: _ :: _ :: _ :: _ => simp [told]
    omega
  have hpos := runs_pos (ss := ss)
  have hdv := runs_dvd hI l2 l3
  have hrne : runs3 ss ≠ [] := by
    intro q
    have := (hdv 17).mp (by rw [q]; simp)
    have := Int.le_of_dvd (by omega) this
    omega
  have hruns := hΔ.runs ss l2 l3 hm
  rw [hS] at hruns
  generalize runs3 ss = rs at *
  have hpb : ∀ r ∈ rs.map (· - 1), r ≤ 200 := by
    intro r hr
    obtain ⟨q, hq, rfl⟩ := List.mem_map.mp hr
    have := hrb q hq
    omega
  obtain ⟨m, m1, m2, hwit⟩ := hΔ.wit rs (rs.map (· - 1)) hrb hpb
  have lrs : rs.length ≤ maxLen := by omega
  generalize hB : some (D.lst (ss.map nm3)) = B at *
  generalize hR : D.lst (rs.map fun (r : Nat) => D.int r) = R at *
  have rR : ∀ σ, res σ R = some R := fun σ => by rw [← hR]; rfl
  have pR : R.pure = true := by rw [← hR]; simp only [D.pure]; exact pures_map _ (fun _ => rfl) _
  have s12 : exS Δ 189 (.asg [(.var 12)] (.call 7 [(.var 2)])) (lv A (some (.loc 0)) (some S) (some (.int g)) x4 B (some (.int (-norm3 L))) (some (.int (ring3 L))) (some (.int (place3 L))) (some (sp3 L)) (some (sp3 (turn3 L))) (some (.int (norm3 L))) none none none) [none] = some (.next, lv A (some (.loc 0)) (some S) (some (.int g)) x4 B (some (.int (-norm3 L))) (some (.int (ring3 L))) (some (.int (place3 L))) (some (sp3 L)) (some (sp3 (turn3 L))) (some (.int (norm3 L))) (some R) none none, [none]) :=
    exS_asg1 (d := R) (evE_call (ds := [S]) rfl (by rw [← hS]; simp only [D.pures, D.pure, Bool.and_true]; exact pures_map _ (fun _ => rfl) _) hruns) rfl
  have hitR : ∀ n vs, vs[12]?.join = some R → itE Δ (n + 1 + 1) (.var 12) vs [none] = some (rs.map fun (r : Nat) => D.int r, [none]) := by
    intro n vs h
    have : (rs.map fun (r : Nat) => D.int r).length ≤ maxLen := by simpa using lrs
    rw [← hR] at h
    simp only [itE, evE, h, Option.map_some, Option.bind_some, evs, itemsOf]
    rw [if_pos this]
  obtain ⟨ws, hws⟩ : ∃ ws, ws = (intsFrom 1 m).filter (fun i => ilv rs i != ilv (rs.map (· - 1)) i) := ⟨_, rfl⟩
  rw [← hws] at hwit
  have lws : ws.length ≤ m := by
    have := List.length_filter_le (fun i => ilv rs i != ilv (rs.map (· - 1)) i) (intsFrom 1 m)
    rw [intsFrom_len] at this
    rw [hws]; exact this
  have s13 : exS Δ 188 (.asg [(.var 13)] (.meth 102 (.call 8 [(.var 12)]) [(.call 8 [(.comp [none, none] (.bin .Sub (.var 1) (.lit (.int 1))) (.var 1) (.var 12) [])])])) (lv A (some (.loc 0)) (some S) (some (.int g)) x4 B (some (.int (-norm3 L))) (some (.int (ring3 L))) (some (.int (place3 L))) (some (sp3 L)) (some (sp3 (turn3 L))) (some (.int (norm3 L))) (some R) none none) [none] = some (.next, lv A (some (.loc 0)) (some S) (some (.int g)) x4 B (some (.int (-norm3 L))) (some (.int (ring3 L))) (some (.int (place3 L))) (some (sp3 L)) (some (sp3 (turn3 L))) (some (.int (norm3 L))) (some R) (some (.lst (ws.map fun i => tup3 i (ilv rs i) (ilv (rs.map (· - 1)) i)))) none, [none]) := by
    refine exS_asg1 (d := .lst (ws.map fun i => tup3 i (ilv rs i) (ilv (rs.map (· - 1)) i))) ?_ rfl
    have hc : evE Δ 183 (.comp [none, none] (.bin .Sub (.var 1) (.lit (.int 1))) (.var 1) (.var 12) []) (lv A (some (.loc 0)) (some S) (some (.int g)) x4 B (some (.int (-norm3 L))) (some (.int (ring3 L))) (some (.int (place3 L))) (some (sp3 L)) (some (sp3 (turn3 L))) (some (.int (norm3 L))) (some R) none none) [none] = some (.lst ((rs.map (· - 1)).map fun (r : Nat) => D.int r), [none]) := by
      refine evE_comp (hitR 180 _ rfl) rfl (by simpa using lrs) ?_
      rw [List.map_map]
      refine compD_map (fun (r : Nat) => D.int r) _ (fun vs => ∃ x, vs = [none, x]) ?_ ⟨none, rfl⟩
      rintro r hr vs ⟨x, rfl⟩
      refine ⟨[none, some (.int r)], ?_, ⟨_, rfl⟩⟩
      have h1 := hpos r hr
      have h2 : (r : Int) - 1 = ((r - 1 : Nat) : Int) := by omega
      simp [asgT, setVar, tesE, evE, evs, h2]
    have hl1 := hΔ.lead rs hrb hrl
    rw [hR] at hl1
    have hl2 := hΔ.lead (rs.map (· - 1)) hpb (by simpa using hrl)
    have k1 : evE Δ 186 (.call 8 [(.var 12)]) (lv A (some (.loc 0)) (some S) (some (.int g)) x4 B (some (.int (-norm3 L))) (some (.int (ring3 L))) (some (.int (place3 L))) (some (sp3 L)) (some (sp3 (turn3 L))) (some (.int (norm3 L))) (some R) none none) [none] = some (W3 rs, [none]) := evE_call (ds := [R]) rfl (by simp [D.pures, pR]) hl1
    have k2 := evE_call (Δ := Δ) (f := 8) (evEs_one hc) (by simp only [D.pures, D.pure, Bool.and_true]; exact pures_map _ (fun _ => rfl) _) hl2
    exact meth_ok k1 (evEs_one k2) (by have := W3_pure rs; have := W3_pure (rs.map (· - 1)); simp only [D.pures, Bool.and_true, Bool.and_eq_true]; exact ⟨W3_pure rs, W3_pure _⟩) hwit
  obtain ⟨fs, hfs⟩ : ∃ fs, fs = ws.filter (fun i => ilv rs i - ilv (rs.map (· - 1)) i == i * rs.length) := ⟨_, rfl⟩
  have hlen : biD .len [R] = some (.int rs.length) := by rw [← hR]; simp [biD, lrs]
  have hsm : small (rs.length : Int) = true := small_nat (by omega)
  have s14 : exS Δ 187 (.asg [(.var 14)] (.comp [none, none, none, none, none, some 12] (.var 1) (.tup [1, 2, 3]) (.var 13) [(.cmp .Eq (.bin .Sub (.var 2) (.var 3)) (.bin .Mult (.var 1) (.bi .len [(.var 5)])))])) (lv A (some (.loc 0)) (some S) (some (.int g)) x4 B (some (.int (-norm3 L))) (some (.int (ring3 L))) (some (.int (place3 L))) (some (sp3 L)) (some (sp3 (turn3 L))) (some (.int (norm3 L))) (some R) (some (.lst (ws.map fun i => tup3 i (ilv rs i) (ilv (rs.map (· - 1)) i)))) none) [none] = some (.next, lv A (some (.loc 0)) (some S) (some (.int g)) x4 B (some (.int (-norm3 L))) (some (.int (ring3 L))) (some (.int (place3 L))) (some (sp3 L)) (some (sp3 (turn3 L))) (some (.int (norm3 L))) (some R) (some (.lst (ws.map fun i => tup3 i (ilv rs i) (ilv (rs.map (· - 1)) i)))) (some (.lst (fs.map .int))), [none]) := by
    have lw : (ws.map fun i => tup3 i (ilv rs i) (ilv (rs.map (· - 1)) i)).length ≤ maxLen := by simp; omega
    refine exS_asg1 (d := .lst (fs.map .int)) (evE_comp (ds := ws.map fun i => tup3 i (ilv rs i) (ilv (rs.map (· - 1)) i)) (σ' := [none]) ?_ rfl lw ?_) rfl
    · simp only [itE, evE]
      show (Option.bind (some (_, _)) _) = _
      simp only [Option.bind_some, evs, itemsOf]
      rw [if_pos lw]
    · rw [hfs]
      refine compD_filter (fun i => tup3 i (ilv rs i) (ilv (rs.map (· - 1)) i)) D.int _ (fun vs => ∃ x y z, vs = [none, x, y, z, none, some R]) ?_ ⟨none, none, none, rfl⟩
      rintro i hi vs ⟨x, y, z, rfl⟩
      refine ⟨[none, some (.int i), some (.int (ilv rs i)), some (.int (ilv (rs.map (· - 1)) i)), none, some R], ?_, ⟨_, _, _, rfl⟩⟩
      rw [show asgT (.tup [1, 2, 3]) (tup3 i (ilv rs i) (ilv (rs.map (· - 1)) i)) [none, x, y, z, none, some R] = some [none, some (.int i), some (.int (ilv rs i)), some (.int (ilv (rs.map (· - 1)) i)), none, some R] from rfl, Option.bind_some]
      generalize ilv rs i = p
      generalize ilv (rs.map (· - 1)) i = q
      have hp' : p - q = i * rs.length ∨ ¬ p - q = i * rs.length := Classical.em _
      have hb : trE Δ 184 (.cmp .Eq (.bin .Sub (.var 2) (.var 3)) (.bin .Mult (.var 1) (.bi .len [(.var 5)]))) [none, some (.int i), some (.int p), some (.int q), none, some R] [none] = some (p - q == i * rs.length, [none]) := by
        simp [trE, evE, evEs, ress, evs, rR, hlen, hsm]
      simp only [tesE, hb, Option.bind_some]
      cases (p - q == i * (rs.length : Int)) <;> simp [tesE, evE]
  have hfs2 : fs = (intsFrom 1 (norm3 L).toNat).filter (fun i => (norm3 L).fmod i == 0) := by
    rw [hfs, hws]
    refine whole_eq hpos hrne (by omega) ?_ hdv
    obtain ⟨r, hr⟩ := List.exists_mem_of_ne_nil _ hrne
    have h1 := longest_mem hr
    have h2 := (hdv (norm3 L).toNat).mpr (by rw [Int.toNat_of_nonneg (by omega)]; exact Int.dvd_refl _) r hr
    have h3 := Nat.le_of_dvd (by have := hpos r hr; omega) h2
    omega
  have s15 : evE Δ 185 (.cmp .Eq (.var 14) (.comp [none, none, some 11] (.var 1) (.var 1) (.bi .range [(.lit (.int 1)), (.bin .Add (.var 11) (.lit (.int 1)))]) [(.cmp .Eq (.bin .Mod (.var 2) (.var 1)) (.lit (.int 0)))])) (lv A (some (.loc 0)) (some S) (some (.int g)) x4 B (some (.int (-norm3 L))) (some (.int (ring3 L))) (some (.int (place3 L))) (some (sp3 L)) (some (sp3 (turn3 L))) (some (.int (norm3 L))) (some R) (some (.lst (ws.map fun i => tup3 i (ilv rs i) (ilv (rs.map (· - 1)) i)))) (some (.lst (fs.map .int)))) [none] = some (.bool true, [none]) := by
    refine evE_eq (x := .lst (fs.map .int)) (y := .lst (fs.map .int)) (σ1 := [none]) rfl (evE_comp (ds := (intsFrom 1 (norm3 L).toNat).map .int) (σ' := [none]) ?_ rfl (by simp [intsFrom_len]; omega) ?_) rfl rfl ?_ (cmp_same D.int (fun a => by simp [eqD]) fs).1
    · have := itE_range2 (Δ := Δ) (n := 182) (e1 := .lit (.int 1)) (e2 := .bin .Add (.var 11) (.lit (.int 1))) (vars := lv A (some (.loc 0)) (some S) (some (.int g)) x4 B (some (.int (-norm3 L))) (some (.int (ring3 L))) (some (.int (place3 L))) (some (sp3 L)) (some (sp3 (turn3 L))) (some (.int (norm3 L))) (some R) (some (.lst (ws.map fun i => tup3 i (ilv rs i) (ilv (rs.map (· - 1)) i)))) (some (.lst (fs.map .int)))) (σ := [none]) (σ' := [none]) (a := 1) (b := norm3 L + 1) (by simp [evEs, evE, evs]) (by decide) (small_of (by omega)) (by omega)
      rw [this, show (norm3 L + 1 - 1).toNat = (norm3 L).toNat by omega]
    · rw [hfs2]
      refine compD_filter D.int D.int _ (fun vs => ∃ x, vs = [none, x, some (.int (norm3 L))]) ?_ ⟨none, rfl⟩
      rintro i hi vs ⟨x, rfl⟩
      refine ⟨[none, some (.int i), some (.int (norm3 L))], ?_, ⟨_, rfl⟩⟩
      have hi0 : ¬ i = 0 := by have := (mem_intsFrom.mp hi).1; omega
      rw [show asgT (.var 1) (.int i) [none, x, some (.int (norm3 L))] = some [none, some (.int i), some (.int (norm3 L))] from rfl, Option.bind_some]
      have hb : trE Δ 182 (.cmp .Eq (.bin .Mod (.var 2) (.var 1)) (.lit (.int 0))) [none, some (.int i), some (.int (norm3 L))] [none] = some ((norm3 L).fmod i == 0, [none]) := by
        simp [trE, evE, evs, hi0]
      simp only [tesE, hb, Option.bind_some]
      cases ((norm3 L).fmod i == 0) <;> simp [tesE, evE]
    · have := deps_map D.int (k := 0) (fun a => by simp [D.dep]) fs
      simp only [D.dep]; omega
  rw [← hB] at *
  exact .step s2 (.step s3 (.step s4 (.skip s5 (.step s6 (.step s7 (.step s8 (.step s9 (.skip s10 (.step s11 (.step s12 (.step s13 (.step s14 (.ret s15 rfl)))))))))))))
end Ev
end
section
set_option maxRecDepth 100000
set_option autoImplicit false
set_option linter.all false
set_option maxHeartbeats 8000000
namespace Ev
open PySem
abbrev D3 (k : Nat) : Dl := lev T3 true false k
theorem com3 (k : Nat) {g : Int} (hg : 0 ≤ g ∧ g < 4) : ComDl (D3 (k + 3)) g where
  hp := ⟨D3 (k + 2), D3 (k + 1), D3 k, fun _ _ => rfl, fun _ _ => rfl, fun _ _ => rfl, fun _ _ => rfl, fun _ _ => rfl⟩
  back := fun r p h => (show _ = runP (D3 (k + 2)) 200 flawback [.int r, .int p] from rfl).trans (back_ok h)
  name := fun s hs => (show _ = runP (D3 (k + 2)) 200 flawname [sp3 s, .int g] from rfl).trans (nm_ok (Δ' := D3 (k + 1)) rfl rfl (fun _ => rfl) hs hg)
theorem run3 (k : Nat) : RunDl (D3 (k + 1)) where
  turn := fun s => (show _ = runP (D3 k) 200 flawturned [sp3 s] from rfl).trans (turned_ok s)
  cross := fun s t h1 h2 => (show _ = runP (D3 k) 200 flawcross [sp3 s, sp3 t] from rfl).trans (cross_ok s t h1 h2)
theorem bump0_len (rs : List Nat) : (rs.foldl bump []).length = longest rs := by rw [bump_longest]; simp
theorem wit3 (k : Nat) (rs rs' : List Nat) (h : ∀ r ∈ rs, r ≤ 200) (h' : ∀ r ∈ rs', r ≤ 200) : ∃ m : Nat, longest rs ≤ m ∧ m ≤ 20000 ∧ (D3 (k + 2)).fns 102 [W3 rs, W3 rs'] = some (.lst (((intsFrom 1 m).filter (fun i => ilv rs i != ilv rs' i)).map fun i => tup3 i (ilv rs i) (ilv rs' i))) := by
  have l1 := longest_le h
  have l2 := longest_le h'
  have c1 : (rs.foldl bump []).length ≤ 10000 := by rw [bump0_len]; omega
  have c2 : (rs'.foldl bump []).length ≤ 10000 := by rw [bump0_len]; omega
  refine ⟨(max (max ((longest rs : Int) - 1) ((0 : Nat) : Int)) (max ((longest rs' : Int) - 1) ((0 : Nat) : Int)) + 1).toNat, by omega, by omega, ?_⟩
  have p1 := W3_pure rs
  have p2 := W3_pure rs'
  refine (show _ = runP (D3 (k + 1)) 200 fnotequalwitness [W3 rs, W3 rs'] from rfl).trans ?_
  have hind : ∀ (qs : List Nat), (qs.foldl bump []).length ≤ 10000 → ∀ i : Int, 1 ≤ i → i ≤ 20000 → (D3 (k + 1)).fns 101 [W3 qs, .int i] = some (.int (ilv qs i)) := by
    intro qs hq i h1 h2
    have e := indent_ok (Δ := D3 k) (t := leadText qs 0 [32, 9]) (cs := qs.foldl bump []) (tr := ((0 : Nat) : Int)) (n := ((runSum qs + 0 : Nat) : Int)) (nt := ((qs.length : Nat) : Int)) (ts := i.toNat) (by omega) (by omega) hq
    rw [Int.toNat_of_nonneg (by omega), isum_runs] at e
    refine (show _ = runP (D3 k) 200 findentlevel [W3 qs, .int i] from rfl).trans (e.trans ?_)
    simp only [ilv, isum]
    rw [Int.toNat_of_nonneg (by omega)]
    simp
  have hlon : ∀ (qs : List Nat), (qs.foldl bump []).length ≤ 10000 → (D3 (k + 1)).fns 100 [W3 qs] = some (.int (max ((longest qs : Int) - 1) ((0 : Nat) : Int))) := by
    intro qs hq
    have e := longest_ok (Δ := D3 k) (t := leadText qs 0 [32, 9]) (cs := qs.foldl bump []) (tr := ((0 : Nat) : Int)) (n := ((runSum qs + 0 : Nat) : Int)) (nt := ((qs.length : Nat) : Int)) hq
    rw [bump0_len] at e
    exact (show _ = runP (D3 k) 200 flongestrunofspaces [W3 qs] from rfl).trans e
  simp only [W3, wsInst, D.pure] at p1 p2
  exact witness_ok p1 p2 (hlon rs c1) (hlon rs' c2) (by omega) (by omega) (fun i h1 h2 => ⟨hind rs c1 i h1 (by omega), hind rs' c2 i h1 (by omega)⟩)
theorem lead3 (k : Nat) (rs : List Nat) (h : ∀ r ∈ rs, r ≤ 200) (hl : rs.length ≤ 20) : (D3 (k + 2)).fns 8 [.lst (rs.map fun (r : Nat) => .int r)] = some (W3 rs) := by
  have hM : maxLen = 1048576 := rfl
  refine (show _ = runP (D3 (k + 1)) 200 flawlead [.lst (rs.map fun (r : Nat) => .int r)] from rfl).trans (lead_ok h hl ?_ (W3_pure rs) (fun σ => rfl))
  refine (show _ = runI (D3 k) 200 finit (.str (leadText rs 0 [32, 9])) from rfl).trans ?_
  have e : leadText rs 0 [32, 9] = runText rs ++ [120, 32, 9] := by simp [leadText]
  have h1 := runText_ascii rs
  have h2 := runText_len rs 200 h
  have h3 : rs.length * (200 + 1) ≤ 20 * 201 := Nat.mul_le_mul hl (by omega)
  refine init_ok (fun r hr => by have := h r hr; omega) ?_ ?_
  · rw [e, List.all_append, h1]; rfl
  · rw [e]; simp; omega
theorem lawDl3 : LawDl (D3 6) where
  run := run3 5
  spot := fun c => ⟨(code_ok' 3 c).1, (show _ = runP (D3 5) 200 flawspot [.int (c.fmod 120)] from rfl).trans (code_ok' 3 c).2⟩
  name := fun s g hs hg => (com3 3 hg).name s hs
  back := fun r p h => (com3 3 (g := 0) (by decide)).back r p h
  common := fun g ss hg h2 h3 hm => by
    obtain ⟨s, a, b, c⟩ := common_ok (com3 2 hg) h2 h3 hm
    exact ⟨s, a, b, (show _ = runP (D3 5) 200 flawcommon [.lst (ss.map nm3), .int g] from rfl).trans c⟩
  runs := fun ss h2 h3 hm => (show _ = runP (D3 5) 200 flawruns [.lst (ss.map sp3)] from rfl).trans (runs_ok (run3 4) h2 h3 hm)
  lead := fun rs h hl => lead3 4 rs h hl
  wit := fun rs rs' h h' => wit3 4 rs rs' h h'
theorem plain3 : Plain3 := by
  intro zs hz
  obtain ⟨codes, c2, c3, e1⟩ := first3 (Δ := lev T3 false false 6) hz
  obtain ⟨v, s, e2⟩ := law3 lawDl3 hz c2 c3
  exact ⟨199, 200, _, _, v, s, e1, e2⟩
theorem law03 : PySem.Challenge.rw_pg0205_03.Holds := holds3 plain3
end Ev
end
theorem PySem.Challenge.cw_pg0205_03_holds : PySem.Challenge.rw_pg0205_03.Holds :=
  Ev.law03
