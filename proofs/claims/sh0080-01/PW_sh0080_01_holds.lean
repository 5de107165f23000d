import PyProof.Rows.All
import Wide.All
import OpenK.AllK
import Wide.FinOn
import PyProof.NeKinds
import PyProof.NeData
import PyProof.P3In
import OpenK.KWalk
import OpenK.KMore
import Lean
import PySem.Challenge.RW_sh0080_01
set_option autoImplicit false
set_option compiler.extract_closed false
set_option linter.unusedVariables false
set_option linter.unusedSimpArgs false
set_option linter.unusedSectionVars false
set_option Elab.async false
set_option maxRecDepth 100000
set_option maxHeartbeats 4000000
namespace Mine
theorem x12 {α : Sort _} {P Q R : α → Prop} {G : Prop} (h : ∃ a, P a ∧ Q a ∧ R a) (k : ∀ a, P a → Q a → R a → G) : G := by
 obtain ⟨a, p, q, r⟩ := h; exact k a p q r
theorem x22 {α β : Sort _} {P Q R : α → β → Prop} {G : Prop} (h : ∃ a b, P a b ∧ Q a b ∧ R a b) (k : ∀ a b, P a b → Q a b → R a b → G) : G := by
 obtain ⟨a, b, p, q, r⟩ := h; exact k a b p q r
theorem x11 {α : Sort _} {P Q : α → Prop} {G : Prop} (h : ∃ a, P a ∧ Q a) (k : ∀ a, P a → Q a → G) : G := by
 obtain ⟨a, p, q⟩ := h; exact k a p q
theorem x32 {α β γ : Sort _} {P Q R : α → β → γ → Prop} {G : Prop} (h : ∃ a b c, P a b c ∧ Q a b c ∧ R a b c) (k : ∀ a b c, P a b c → Q a b c → R a b c → G) : G := by
 obtain ⟨a, b, c, p, q, r⟩ := h; exact k a b c p q r
theorem x02 {P Q R : Prop} {G : Prop} (h : P ∧ Q ∧ R) (k : P → Q → R → G) : G := by
 obtain ⟨p, q, r⟩ := h; exact k p q r
theorem x03 {P Q R S : Prop} {G : Prop} (h : P ∧ Q ∧ R ∧ S) (k : P → Q → R → S → G) : G := by
 obtain ⟨p, q, r, s⟩ := h; exact k p q r s
theorem x44 {α β γ δ : Sort _} {P Q R S T : α → β → γ → δ → Prop} {G : Prop} (h : ∃ a b c d, P a b c d ∧ Q a b c d ∧ R a b c d ∧ S a b c d ∧ T a b c d) (k : ∀ a b c d, P a b c d → Q a b c d → R a b c d → S a b c d → T a b c d → G) : G := by
 obtain ⟨a, b, c, d, p, q, r, s, t⟩ := h; exact k a b c d p q r s t
theorem x52 {α β γ δ ε : Sort _} {P Q R : α → β → γ → δ → ε → Prop} {G : Prop} (h : ∃ a b c d e, P a b c d e ∧ Q a b c d e ∧ R a b c d e) (k : ∀ a b c d e, P a b c d e → Q a b c d e → R a b c d e → G) : G := by
 obtain ⟨a, b, c, d, e, p, q, r⟩ := h; exact k a b c d e p q r
theorem x34 {α β γ : Sort _} {P Q R S T : α → β → γ → Prop} {G : Prop} (h : ∃ a b c, P a b c ∧ Q a b c ∧ R a b c ∧ S a b c ∧ T a b c) (k : ∀ a b c, P a b c → Q a b c → R a b c → S a b c → T a b c → G) : G := by
 obtain ⟨a, b, c, p, q, r, s, t⟩ := h; exact k a b c p q r s t
theorem x47 {α β γ δ : Sort _} {P Q R S T U V W : α → β → γ → δ → Prop} {G : Prop} (h : ∃ a b c d, P a b c d ∧ Q a b c d ∧ R a b c d ∧ S a b c d ∧ T a b c d ∧ U a b c d ∧ V a b c d ∧ W a b c d) (k : ∀ a b c d, P a b c d → Q a b c d → R a b c d → S a b c d → T a b c d → U a b c d → V a b c d → W a b c d → G) : G := by
 obtain ⟨a, b, c, d, p, q, r, s, t, u, v, w⟩ := h; exact k a b c d p q r s t u v w
theorem x23 {α β : Sort _} {P Q R S : α → β → Prop} {G : Prop} (h : ∃ a b, P a b ∧ Q a b ∧ R a b ∧ S a b) (k : ∀ a b, P a b → Q a b → R a b → S a b → G) : G := by
 obtain ⟨a, b, p, q, r, s⟩ := h; exact k a b p q r s
theorem x20 {α β : Sort _} {P : α → β → Prop} {G : Prop} (h : ∃ a b, P a b) (k : ∀ a b, P a b → G) : G := by
 obtain ⟨a, b, p⟩ := h; exact k a b p
theorem x63 {α β γ δ ε ζ : Sort _} {P Q R S : α → β → γ → δ → ε → ζ → Prop} {G : Prop} (h : ∃ a b c d e f, P a b c d e f ∧ Q a b c d e f ∧ R a b c d e f ∧ S a b c d e f) (k : ∀ a b c d e f, P a b c d e f → Q a b c d e f → R a b c d e f → S a b c d e f → G) : G := by
 obtain ⟨a, b, c, d, e, f, p, q, r, s⟩ := h; exact k a b c d e f p q r s
theorem x21 {α β : Sort _} {P Q : α → β → Prop} {G : Prop} (h : ∃ a b, P a b ∧ Q a b) (k : ∀ a b, P a b → Q a b → G) : G := by
 obtain ⟨a, b, p, q⟩ := h; exact k a b p q
theorem x31 {α β γ : Sort _} {P Q : α → β → γ → Prop} {G : Prop} (h : ∃ a b c, P a b c ∧ Q a b c) (k : ∀ a b c, P a b c → Q a b c → G) : G := by
 obtain ⟨a, b, c, p, q⟩ := h; exact k a b c p q
theorem x40 {α β γ δ : Sort _} {P : α → β → γ → δ → Prop} {G : Prop} (h : ∃ a b c d, P a b c d) (k : ∀ a b c d, P a b c d → G) : G := by
 obtain ⟨a, b, c, d, p⟩ := h; exact k a b c d p
theorem x33 {α β γ : Sort _} {P Q R S : α → β → γ → Prop} {G : Prop} (h : ∃ a b c, P a b c ∧ Q a b c ∧ R a b c ∧ S a b c) (k : ∀ a b c, P a b c → Q a b c → R a b c → S a b c → G) : G := by
 obtain ⟨a, b, c, p, q, r, s⟩ := h; exact k a b c p q r s
theorem x37 {α β γ : Sort _} {P Q R S T U V W : α → β → γ → Prop} {G : Prop} (h : ∃ a b c, P a b c ∧ Q a b c ∧ R a b c ∧ S a b c ∧ T a b c ∧ U a b c ∧ V a b c ∧ W a b c) (k : ∀ a b c, P a b c → Q a b c → R a b c → S a b c → T a b c → U a b c → V a b c → W a b c → G) : G := by
 obtain ⟨a, b, c, p, q, r, s, t, u, v, w⟩ := h; exact k a b c p q r s t u v w
theorem no {α : Type} {P : Prop} {a : α} (h : (none : Option α) = some a) : P := nomatch h
theorem ft {G : Prop} (h : false = true) : G := nomatch h
theorem tf {G : Prop} (h : true = false) : G := nomatch h
theorem si {α : Type} {a b : α} (h : some a = some b) : a = b := Option.some.inj h
end Mine
namespace Mine
open PySem PySem.Calls PyProof.Rows
inductive PV where
 | none | bool (b : Bool) | int (i : Int) | str (x : Str)
 | tup (xs : List PV) | lst (xs : List PV)
 | inst (K : Addr) (ns : List Str) (ps : List PV)
 | dict0
 | dct (H : Str → Int) (ks : List Str) (ps : List PV)
 | con (v : Value)
noncomputable abbrev PH := Addr → Option Obj
inductive Ents (H : Str → Int) : List DictEntry → List Str → List Value → Prop
 | nil : Ents H [] [] []
 | cons {e : DictEntry} {k : Str} {es : List DictEntry} {ks : List Str} {vs : List Value} (h1 : Value.isStrOf k e.key = true) (h2 : e.hash = H k) (r : Ents H es ks vs) : Ents H (e :: es) (k :: ks) (e.val :: vs)
def DctAt (o : Obj) (H : Str → Int) (ks : List Str) (vs : List Value) : Prop := o.ExactDict ∧ ks.Nodup ∧ ∃ es n, o.data = .dict es n ∧ Ents H es.toList ks vs
mutual
inductive Rp (kp : PH) : PV → Value → Prop
 | none : Rp kp .none .none
 | bool (b : Bool) : Rp kp (.bool b) (.bool b)
 | int (i : Int) (t : Tok) : Rp kp (.int i) (.int i t)
 | str (x : Str) (t : Tok) : Rp kp (.str x) (.str x t)
 | con (v : Value) : Rp kp (.con v) v
 | tup {xs : List PV} {a : Addr} {o : Obj} {vs : Array Value} {n : Nat} (h : kp a = some o) (hc : o.cls = .type "tuple") (hd : o.data = .seq vs n) (hs : Rps kp xs vs.toList) : Rp kp (.tup xs) (.ref a)
 | lst {xs : List PV} {a : Addr} {vs : Array Value} {n : Nat} (h : kp a = some { cls := .type "list", data := .seq vs n }) (hs : Rps kp xs vs.toList) : Rp kp (.lst xs) (.ref a)
 | inst {K : Addr} {ns : List Str} {ps : List PV} {a dx : Addr} {od : Obj} {es : Array DictEntry} {n : Nat} {vs : List Value} (ha : kp a = some (W.instObj K dx)) (hd : kp dx = some od) (hde : od.data = .dict es n) (hk : StrKeys es) (hs : Rps kp ps vs) (hn : ns.length = ps.length) (hf : ∀ x, nsFind es x = (ns.zip vs).lookup x) : Rp kp (.inst K ns ps) (.ref a)
 | dict0 {a : Addr} (h : kp a = some { cls := .type "dict", data := .dict #[] }) : Rp kp .dict0 (.ref a)
 | dct {H : Str → Int} {ks : List Str} {ps : List PV} {a : Addr} {o : Obj} {vs : List Value} (h : kp a = some o) (hsm : a ≠ sysModules) (hd : DctAt o H ks vs) (hs : Rps kp ps vs) : Rp kp (.dct H ks ps) (.ref a)
inductive Rps (kp : PH) : List PV → List Value → Prop
 | nil : Rps kp [] []
 | cons {p : PV} {ps : List PV} {v : Value} {vs : List Value} (h : Rp kp p v) (hs : Rps kp ps vs) : Rps kp (p :: ps) (v :: vs)
end
def PH.le (f g : PH) : Prop := ∀ a o, f a = some o → g a = some o
theorem Rp.mono {f g : PH} (hl : PH.le f g) {p : PV} {v : Value} (x : Rp f p v) : Rp g p v :=
 Rp.rec (motive_1 := fun p v _ => Rp g p v) (motive_2 := fun ps vs _ => Rps g ps vs) .none .bool .int .str .con (fun h hc hd _ i => .tup (hl _ _ h) hc hd i) (fun h _ i => .lst (hl _ _ h) i)
  (fun ha hd hde hk _ hn hf i => .inst (hl _ _ ha) (hl _ _ hd) hde hk i hn hf) (fun h => .dict0 (hl _ _ h)) (fun h hsm hd _ i => .dct (hl _ _ h) hsm hd i) .nil (fun _ _ i j => .cons i j) x
theorem Rps.ind {kp : PH} {P : List PV → List Value → Prop} (n : P [] []) (c : ∀ {p ps v vs}, Rp kp p v → Rps kp ps vs → P ps vs → P (p :: ps) (v :: vs)) {ps : List PV} {vs : List Value} (h : Rps kp ps vs) : P ps vs :=
 Rps.rec (motive_1 := fun _ _ _ => True) (motive_2 := fun ps vs _ => P ps vs) trivial (fun _ => trivial) (fun _ _ => trivial) (fun _ _ => trivial) (fun _ => trivial) (fun _ _ _ _ _ => trivial) (fun _ _ _ => trivial) (fun _ _ _ _ _ _ _ _ => trivial) (fun _ => trivial) (fun _ _ _ _ _ => trivial) n (fun h hs _ i => c h hs i) h
theorem Rps.mono {f g : PH} (hl : PH.le f g) {ps : List PV} {vs : List Value} (x : Rps f ps vs) : Rps g ps vs :=
 Rps.ind (P := fun ps vs => Rps g ps vs) .nil (fun h _ i => .cons (h.mono hl) i) x
theorem Rps.length {kp : PH} {ps : List PV} {vs : List Value} (x : Rps kp ps vs) : vs.length = ps.length :=
 Rps.ind (P := fun ps vs => vs.length = ps.length) rfl (fun _ _ i => congrArg Nat.succ i) x
theorem Rps.get {kp : PH} {ps : List PV} {vs : List Value} (x : Rps kp ps vs) : ∀ {i : Nat} {p : PV}, ps[i]? = some p → ∃ v, vs[i]? = some v ∧ Rp kp p v :=
 fun {i p} => Rps.ind (P := fun ps vs => ∀ i : Nat, ps[i]? = some p → ∃ v, vs[i]? = some v ∧ Rp kp p v) (fun _ h => by exact no h) (fun h _ ih i e => by
  cases i with
  | zero => obtain rfl := si e; exact ⟨_, rfl, h⟩
  | succ i => exact ih i e) x i
theorem Rps.cons_inv {kp : PH} {p : PV} {ps : List PV} {vs : List Value} (x : Rps kp (p :: ps) vs) : ∃ v ws, vs = v :: ws ∧ Rp kp p v ∧ Rps kp ps ws := by
 cases x with
 | cons h hs => exact ⟨_, _, rfl, h, hs⟩
theorem Rps.one_inv {kp : PH} {p : PV} {vs : List Value} (x : Rps kp [p] vs) : ∃ v, vs = [v] ∧ Rp kp p v := by
 refine x22 x.cons_inv fun v ws z1 h hs => ?_; subst z1
 cases hs
 exact ⟨v, rfl, h⟩
theorem Rps.append {kp : PH} {ps qs : List PV} {vs ws : List Value} (x : Rps kp ps vs) (y : Rps kp qs ws) : Rps kp (ps ++ qs) (vs ++ ws) :=
 Rps.ind (P := fun ps vs => Rps kp (ps ++ qs) (vs ++ ws)) y (fun h _ i => .cons h i) x
structure Cx where
 prog : Program
 w : World
 h₀ : Heap
 z : Shared
 mg : Str → Option Value
 mb : Str → Option Value
 hg : h₀.Ns mainGlobals mg
 hb : h₀.Ns builtinsNs mb
 lim : h₀.NoLimit
inductive Loc where
 | fr (p : PV)
 | ol (xs : List PV)
 | many (ps : List PV)
 | itr (xs : List PV)
 | itt (xs : List (List PV))
 | nsp
 | ins (a : Option Addr) (K : Addr) (ns : List Str) (ps : List PV)
 | hd (a : Option (Addr × Addr)) (K : Addr) (f : Str) (xs : List PV)
 | oa (b : Addr) (xs : List PV)
 | hz (a b : Addr) (K : Addr)
 | od (H : Str → Int) (ks : List Str) (ps : List PV)
 | oll (xss : List (List PV))
inductive LV where
 | one (v : Value)
 | many (vs : List Value)
def InD (h : Heap) (a : Addr) (m : Str → Option Value) (z : Nat) : Prop := ∃ o es ep, h.get? a = some o ∧ o.data = .dict es ep ∧ StrKeys es ∧ (∀ n, nsFind es n = m n) ∧ es.size ≤ z
theorem InD.at' {h h' : Heap} {a : Addr} {m : Str → Option Value} {z : Nat} (x : InD h a m z) (e : ∀ o, h.get? a = some o → h'.get? a = some o) : InD h' a m z := let ⟨o, es, ep, q, r⟩ := x; ⟨o, es, ep, e _ q, r⟩
def NoOwned (o : Obj) : Prop := match o.cls, o.data with
 | .type n, .fields _ => ["enumerate", "zip", "dict_itemiterator", "dict_reverseitemiterator", "odict_iterator", "itertools.zip_longest", "itertools.pairwise"].contains n = false
 | _, _ => True
inductive LLs (kp : PH) (h : Heap) : List (List PV) → List Addr → Prop
 | nil : LLs kp h [] []
 | cons {xs : List PV} {xss : List (List PV)} {b : Addr} {bs : List Addr} {ws : Array Value} (hl : h.PlainList b ws) (hs : Rps kp xs ws.toList) (r : LLs kp h xss bs) : LLs kp h (xs :: xss) (b :: bs)
inductive RpL (C : Cx) (kp : PH) (h : Heap) : Loc → LV → List Addr → Prop
 | fr {p : PV} {v : Value} (hp : Rp kp p v) : RpL C kp h (.fr p) (.one v) []
 | many {ps : List PV} {vs : List Value} (hp : Rps kp ps vs) : RpL C kp h (.many ps) (.many vs) []
 | ol {xs : List PV} {a : Addr} {vs : Array Value} (hl : h.PlainList a vs) (hs : Rps kp xs vs.toList) : RpL C kp h (.ol xs) (.one (.ref a)) [a]
 | itr {xs : List PV} {I : Addr} {fp wr : List Addr} {n : Nat} {P : Nat → Value → Prop} {St : Nat → Heap → Prop} {i : Nat} (hW : ∀ A : Around, A.handled = none → Walks C.prog C.w A I fp wr n P St) (hst : St i h)
  (hlen : i + xs.length = n) (hval : ∀ j v p, P (i + j) v → xs[j]? = some p → Rp kp p v) (hfp : ∀ b ∈ fp, b ∈ wr ∨ ∃ o, kp b = some o) (hlive : ∀ i h, St i h → ∀ b ∈ wr, ∃ o, h.get? b = some o) (hnd : wr.Nodup) (hcls : ∀ i h, St i h → ∃ o, h.get? I = some o ∧ NoOwned o) : RpL C kp h (.itr xs) (.one (.ref I)) wr
 | itt {xs : List (List PV)} {I : Addr} {fp wr : List Addr} {n : Nat} {P : Nat → Array Value → Prop} {St : Nat → Heap → Prop} {Mid : Nat → Addr → Heap → Prop} {i : Nat} (hW : ∀ A : Around, A.handled = none → WalksT C.prog C.w A I fp wr n P St Mid) (hst : St i h)
  (hlen : i + xs.length = n) (hval : ∀ j v p, P (i + j) v → xs[j]? = some p → Rps kp p v.toList) (hfp : ∀ b ∈ fp, b ∈ wr ∨ ∃ o, kp b = some o) (hlive : ∀ i h, St i h → ∀ b ∈ wr, ∃ o, h.get? b = some o) (hnd : wr.Nodup) : RpL C kp h (.itt xs) (.one (.ref I)) wr
 | nsp {a : Addr} {m : Str → Option Value} (hn : h.Ns a m) : RpL C kp h .nsp (.one (.ref a)) [a]
 | ins {x? : Option Addr} {K : Addr} {ns : List Str} {ps : List PV} {a dx : Addr} {vs : List Value} (hq : ∀ b, x? = some b → b = a) (ha : h.get? a = some (W.instObj K dx)) (hd : InD h dx (fun x => (ns.zip vs).lookup x) ns.length) (hs : Rps kp ps vs) (hn : ns.length = ps.length) (hne : a ≠ dx) : RpL C kp h (.ins x? K ns ps) (.one (.ref a)) [a, dx]
 | oa {xs : List PV} {a : Addr} {vs : Array Value} (hl : h.PlainList a vs) (hs : Rps kp xs vs.toList) : RpL C kp h (.oa a xs) (.one (.ref a)) [a]
 | hz {K : Addr} {a dx b : Addr} (ha : h.get? a = some (W.instObj K dx)) (hd : InD h dx (fun _ => none) 0) (hl : h.PlainList b #[]) (hne : [a, dx, b].Nodup) : RpL C kp h (.hz a b K) (.one (.ref a)) [a, dx, b]
 | hd {x? : Option (Addr × Addr)} {K : Addr} {f : Str} {xs : List PV} {a dx b : Addr} {vs : Array Value} (hq : ∀ c, x? = some c → c = (a, b)) (ha : h.get? a = some (W.instObj K dx)) (hd : InD h dx (fun x => if x = f then some (.ref b) else none) 1) (hl : h.PlainList b vs) (hs : Rps kp xs vs.toList) (hne : [a, dx, b].Nodup) : RpL C kp h (.hd x? K f xs) (.one (.ref a)) [a, dx, b]
 | od {H : Str → Int} {ks : List Str} {ps : List PV} {a : Addr} {o : Obj} {vs : List Value} (ha : h.get? a = some o) (hsm : a ≠ sysModules) (hd : DctAt o H ks vs) (hs : Rps kp ps vs) : RpL C kp h (.od H ks ps) (.one (.ref a)) [a]
 | oll {xss : List (List PV)} {a : Addr} {bs : List Addr} {vs : Array Value} (hl : h.PlainList a vs) (hv : vs.toList = bs.map .ref) (hb : LLs kp h xss bs) (hne : (a :: bs).Nodup) : RpL C kp h (.oll xss) (.one (.ref a)) (a :: bs)
def VarAt (env : Env) (h : Heap) (m : Str → Option Value) (x : Str) (v : Value) : Prop :=
 (env.kindOf x = some .local ∧ m x = some v) ∨ (env.kindOf x = some .cell ∧ ∃ c, env.cells.lookup x = some c ∧ h.IsCell c (some v))
noncomputable abbrev Rho := Str → Option Loc
noncomputable def upd (ρ : Rho) (x : Str) (l : Loc) : Rho := fun y => if y = x then some l else ρ y
inductive Tm (C : Cx) (kp : PH) (h : Heap) : List (Loc × LV) → List (List Addr) → Prop
 | nil : Tm C kp h [] []
 | cons {l : Loc} {v : LV} {own : List Addr} {tmp : List (Loc × LV)} {tow : List (List Addr)} (h1 : RpL C kp h l v own) (h2 : Tm C kp h tmp tow) : Tm C kp h ((l, v) :: tmp) (own :: tow)
theorem Tm.inv {C : Cx} {kp : PH} {h : Heap} {l : Loc} {v : LV} {tmp : List (Loc × LV)} {tow : List (List Addr)} (x : Tm C kp h ((l, v) :: tmp) tow) : ∃ ow tow', tow = ow :: tow' ∧ RpL C kp h l v ow ∧ Tm C kp h tmp tow' := by
 cases x with
 | cons a b => exact ⟨_, _, rfl, a, b⟩
theorem Tm.inv2 {C : Cx} {kp : PH} {h : Heap} {l : Loc} {v : LV} {tmp : List (Loc × LV)} {ow : List Addr} {tow : List (List Addr)} (x : Tm C kp h ((l, v) :: tmp) (ow :: tow)) : RpL C kp h l v ow ∧ Tm C kp h tmp tow := by
 cases x with
 | cons a b => exact ⟨a, b⟩
structure SimD (C : Cx) (kk fk : PH) (env : Env) (ρ : Rho) (tmp : List (Loc × LV)) (s : Shared) (kp : PH) (m : Str → Option Value) (own : Str → List Addr) (tow : List (List Addr)) : Prop where
 rest : ∃ h tk, s = { C.z with heap := h, toks := tk }
 base : ∀ a o, C.h₀.get? a = some o → kk a = some o
 le : PH.le kk kp
 kept : ∀ a o, kp a = some o → s.heap.get? a = some o
 fkept : ∀ a o, fk a = some o → s.heap.get? a = some o
 kf : ∀ a o, fk a = some o → kp a = none
 ns : s.heap.Ns env.locals m
 nl : kp env.locals = none
 vars : ∀ x l, ρ x = some l → ∃ v, VarAt env s.heap m x v ∧ RpL C kp s.heap l (.one v) (own x)
 noVar : ∀ x, ρ x = none → own x = []
 tmps : Tm C kp s.heap tmp tow
 free : ∀ a, ((∃ x, a ∈ own x) ∨ a ∈ tow.flatten) → kp a = none ∧ fk a = none ∧ a ≠ env.locals ∧ ∀ y c, env.cells.lookup y = some c → c ≠ a
 apart : ∀ x y a, a ∈ own x → a ∈ own y → x = y
 apartT : ∀ x a, a ∈ own x → a ∉ tow.flatten
 towN : tow.flatten.Nodup
 cells : ∀ x c, env.cells.lookup x = some c → (∃ v, s.heap.IsCell c v) ∧ c ≠ env.locals
 wcell : (∀ x c, env.cells.lookup x = some c → env.locals < c → kp c = none) ∧ ∀ x y c, env.cells.lookup x = some c → env.locals < c → env.cells.lookup y = some c → x = y
 globals : env.globals = mainGlobals
 builtins : env.builtins = builtinsNs
 kind : env.scope.kind = .function
def Sim (C : Cx) (kk fk : PH) (env : Env) (ρ : Rho) (tmp : List (Loc × LV)) (s : Shared) : Prop := ∃ kp m own tow, SimD C kk fk env ρ tmp s kp m own tow
section
variable {C : Cx} {kk fk : PH} {env : Env} {ρ : Rho} {tmp : List (Loc × LV)} {s : Shared}
theorem VarAt.keeps {h h' : Heap} {m : Str → Option Value} {x : Str} {v : Value} (hv : VarAt env h m x v) (hk : ∀ b o, h.get? b = some o → h'.get? b = some o) : VarAt env h' m x v :=
 hv.imp id fun ⟨a, c, b, d⟩ => ⟨a, c, b, d.keeps hk⟩
theorem LLs.keepsOn {kp : PH} {h h' : Heap} {xss : List (List PV)} {bs : List Addr} (x : LLs kp h xss bs) : (∀ b ∈ bs, ∀ o, h.get? b = some o → h'.get? b = some o) → LLs kp h' xss bs := by
 induction x with
 | nil => exact fun _ => .nil
 | cons hl hs r ih => exact fun hk => .cons (Exists.imp (fun _ e => hk _ (.head _) _ e) hl) hs (ih fun b hb => hk b (.tail _ hb))
theorem LLs.mono {kp kp' : PH} {h : Heap} (hl : PH.le kp kp') {xss : List (List PV)} {bs : List Addr} (x : LLs kp h xss bs) : LLs kp' h xss bs := by
 induction x with
 | nil => exact .nil
 | cons h1 hs r ih => exact .cons h1 (hs.mono hl) ih
theorem LLs.live {kp : PH} {h : Heap} {xss : List (List PV)} {bs : List Addr} (x : LLs kp h xss bs) : ∀ b ∈ bs, ∃ o, h.get? b = some o := by
 induction x with
 | nil => exact fun _ hb => by cases hb
 | cons hl hs r ih => exact List.forall_mem_cons.mpr ⟨hl.elim fun _ e => ⟨_, e⟩, ih⟩
theorem RpL.keepsOn {kp : PH} {h h' : Heap} {l : Loc} {v : LV} {own : List Addr} (x : RpL C kp h l v own) (hk : ∀ b o, (b ∈ own ∨ ∃ o, kp b = some o) → h.get? b = some o → h'.get? b = some o) : RpL C kp h' l v own := by
 induction x with
 | fr hp => exact .fr hp
 | many hp => exact .many hp
 | ol hl hs => exact .ol (Exists.imp (fun _ e => hk _ _ (.inl (.head _)) e) hl) hs
 | itr hW hst hlen hval hfp hlive hnd hcls =>
  exact .itr hW ((hW {} rfl).frame _ _ _ hst fun b hb o e => hk b o (hfp b hb) e) hlen hval hfp hlive hnd hcls
 | itt hW hst hlen hval hfp hlive hnd =>
  exact .itt hW ((hW {} rfl).frame _ _ _ hst fun b hb o e => hk b o (hfp b hb) e) hlen hval hfp hlive hnd
 | nsp hn => exact .nsp (hn.at' fun o e => hk _ _ (.inl (.head _)) e)
 | ins hq ha hd hs hn hne => exact .ins hq (hk _ _ (.inl (.head _)) ha) (hd.at' fun o e => hk _ _ (.inl (.tail _ (.head _))) e) hs hn hne
 | oa hl hs => exact .oa (Exists.imp (fun _ e => hk _ _ (.inl (.head _)) e) hl) hs
 | hz ha hd hl hne => exact .hz (hk _ _ (.inl (.head _)) ha) (hd.at' fun o e => hk _ _ (.inl (.tail _ (.head _))) e) (Exists.imp (fun _ e => hk _ _ (.inl (.tail _ (.tail _ (.head _)))) e) hl) hne
 | hd hq ha hd hl hs hne => exact .hd hq (hk _ _ (.inl (.head _)) ha) (hd.at' fun o e => hk _ _ (.inl (.tail _ (.head _))) e) (Exists.imp (fun _ e => hk _ _ (.inl (.tail _ (.tail _ (.head _)))) e) hl) hs hne
 | od ha hsm hd hs => exact .od (hk _ _ (.inl (.head _)) ha) hsm hd hs
 | oll hl hv hb hne => exact .oll (Exists.imp (fun _ e => hk _ _ (.inl (.head _)) e) hl) hv (hb.keepsOn fun b hb o e => hk b o (.inl (.tail _ hb)) e) hne
theorem RpL.keeps {kp : PH} {h h' : Heap} {l : Loc} {v : LV} {own : List Addr} (x : RpL C kp h l v own) (hk : ∀ b o, h.get? b = some o → h'.get? b = some o) : RpL C kp h' l v own := x.keepsOn fun b o _ e => hk b o e
theorem RpL.fr_inv {kp : PH} {h : Heap} {p : PV} {v : Value} {ow : List Addr} (x : RpL C kp h (.fr p) (.one v) ow) : Rp kp p v ∧ ow = [] := by
 cases x with
 | fr hp => exact ⟨hp, rfl⟩
theorem RpL.many_inv {kp : PH} {h : Heap} {ps : List PV} {vs : List Value} {ow : List Addr} (x : RpL C kp h (.many ps) (.many vs) ow) : ow = [] ∧ Rps kp ps vs := by
 cases x with
 | many hp => exact ⟨rfl, hp⟩
theorem RpL.ol_inv {kp : PH} {h : Heap} {xs : List PV} {v : Value} {ow : List Addr} (x : RpL C kp h (.ol xs) (.one v) ow) : ∃ a vs, v = .ref a ∧ ow = [a] ∧ h.PlainList a vs ∧ Rps kp xs vs.toList := by
 cases x with
 | ol hl hs => exact ⟨_, _, rfl, rfl, hl, hs⟩
theorem RpL.oa_inv {kp : PH} {h : Heap} {xs : List PV} {a : Addr} {v : Value} {ow : List Addr} (x : RpL C kp h (.oa a xs) (.one v) ow) : ∃ vs, v = .ref a ∧ ow = [a] ∧ h.PlainList a vs ∧ Rps kp xs vs.toList := by
 cases x with
 | oa hl hs => exact ⟨_, rfl, rfl, hl, hs⟩
theorem RpL.hz_inv {kp : PH} {h : Heap} {K a b : Addr} {v : Value} {ow : List Addr} (x : RpL C kp h (.hz a b K) (.one v) ow) : ∃ dx, v = .ref a ∧ ow = [a, dx, b] ∧ h.get? a = some (W.instObj K dx) ∧ InD h dx (fun _ => none) 0 ∧ h.PlainList b #[] ∧ [a, dx, b].Nodup := by
 cases x with
 | hz ha hd hl hne => exact ⟨_, rfl, rfl, ha, hd, hl, hne⟩
theorem RpL.hd_inv {kp : PH} {h : Heap} {q : Option (Addr × Addr)} {K : Addr} {f : Str} {xs : List PV} {v : Value} {ow : List Addr} (x : RpL C kp h (.hd q K f xs) (.one v) ow) : ∃ a dx b vs, v = .ref a ∧ ow = [a, dx, b] ∧ (∀ c, q = some c → c = (a, b)) ∧ h.get? a = some (W.instObj K dx) ∧ InD h dx (fun x => if x = f then some (.ref b) else none) 1 ∧ h.PlainList b vs ∧ Rps kp xs vs.toList ∧ [a, dx, b].Nodup := by
 cases x with
 | hd hq ha hd hl hs hne => exact ⟨_, _, _, _, rfl, rfl, hq, ha, hd, hl, hs, hne⟩
theorem RpL.ins_inv {kp : PH} {h : Heap} {q : Option Addr} {K : Addr} {ns : List Str} {ps : List PV} {v : Value} {ow : List Addr} (x : RpL C kp h (.ins q K ns ps) (.one v) ow) : ∃ a dx vs, v = .ref a ∧ ow = [a, dx] ∧ (∀ b, q = some b → b = a) ∧ h.get? a = some (W.instObj K dx) ∧ InD h dx (fun x => (ns.zip vs).lookup x) ns.length ∧ Rps kp ps vs ∧ ns.length = ps.length ∧ a ≠ dx := by
 cases x with
 | ins hq ha hd hs hn hne => exact ⟨_, _, _, rfl, rfl, hq, ha, hd, hs, hn, hne⟩
theorem InD.live {h : Heap} {a : Addr} {m : Str → Option Value} {n : Nat} (x : InD h a m n) : ∃ o, h.get? a = some o := by
 refine x31 x fun o _ _ e _ => ?_; clear x
 exact ⟨o, e⟩
theorem allC {α : Type} {P : α → Prop} {x : α} {l : List α} (p : P x) (q : ∀ a ∈ l, P a) : ∀ a ∈ x :: l, P a := List.forall_mem_cons.mpr ⟨p, q⟩
theorem allN {α : Type} {P : α → Prop} : ∀ a ∈ ([] : List α), P a := fun _ h => by cases h
theorem RpL.live {kp : PH} {h : Heap} {l : Loc} {v : LV} {ow : List Addr} (x : RpL C kp h l v ow) : ∀ {a : Addr}, a ∈ ow → ∃ o, h.get? a = some o := by
 have all : ∀ a ∈ ow, ∃ o, h.get? a = some o := by
  induction x with
  | fr hp => exact allN
  | many hp => exact allN
  | ol hl hs => exact allC (hl.elim fun _ e => ⟨_, e⟩) allN
  | itr hW hst hlen hval hfp hlive hnd hcls => exact hlive _ _ hst
  | itt hW hst hlen hval hfp hlive hnd => exact hlive _ _ hst
  | nsp hn => exact allC (hn.elim fun o h => h.elim fun _ h => h.elim fun _ h => ⟨o, h.1⟩) allN
  | ins hq ha' hd hs hn hne => exact allC ⟨_, ha'⟩ (allC hd.live allN)
  | oa hl hs => exact allC (hl.elim fun _ e => ⟨_, e⟩) allN
  | hz ha' hd hl hne => exact allC ⟨_, ha'⟩ (allC hd.live (allC (hl.elim fun _ e => ⟨_, e⟩) allN))
  | hd hq ha' hd hl hs hne => exact allC ⟨_, ha'⟩ (allC hd.live (allC (hl.elim fun _ e => ⟨_, e⟩) allN))
  | od ha' hsm hd hs => exact allC ⟨_, ha'⟩ allN
  | oll hl hv hb hne => exact allC (hl.elim fun _ e => ⟨_, e⟩) hb.live
 intro a ha
 exact all a ha
theorem RpL.mono {kp kp' : PH} {h : Heap} {l : Loc} {v : LV} {own : List Addr} (x : RpL C kp h l v own) (hl : PH.le kp kp') : RpL C kp' h l v own := by
 induction x with
 | fr hp => exact .fr (hp.mono hl)
 | many hp => exact .many (hp.mono hl)
 | ol h1 hs => exact .ol h1 (hs.mono hl)
 | itr hW hst hlen hval hfp hlive hnd hcls => exact .itr hW hst hlen (fun j v p a b => (hval j v p a b).mono hl) (fun b hb => (hfp b hb).imp id fun ⟨o, e⟩ => ⟨o, hl _ _ e⟩) hlive hnd hcls
 | itt hW hst hlen hval hfp hlive hnd => exact .itt hW hst hlen (fun j v p a b => (hval j v p a b).mono hl) (fun b hb => (hfp b hb).imp id fun ⟨o, e⟩ => ⟨o, hl _ _ e⟩) hlive hnd
 | nsp hn => exact .nsp hn
 | ins hq ha hd hs hn hne => exact .ins hq ha hd (hs.mono hl) hn hne
 | oa h1 hs => exact .oa h1 (hs.mono hl)
 | hz ha hd h1 hne => exact .hz ha hd h1 hne
 | hd hq ha hd h1 hs hne => exact .hd hq ha hd h1 (hs.mono hl) hne
 | od ha hsm hd hs => exact .od ha hsm hd (hs.mono hl)
 | oll h1 hv hb hne => exact .oll h1 hv (hb.mono hl) hne
theorem Tm.keeps {kp : PH} {h h' : Heap} (hk : ∀ b o, h.get? b = some o → h'.get? b = some o) : ∀ {tmp : List (Loc × LV)} {tow : List (List Addr)}, Tm C kp h tmp tow → Tm C kp h' tmp tow := by
 intro tmp tow x
 induction x with
 | nil => exact .nil
 | cons a b ih => exact .cons (a.keeps hk) ih
theorem Tm.keepsOn {kp : PH} {h h' : Heap} : ∀ {tmp : List (Loc × LV)} {tow : List (List Addr)}, Tm C kp h tmp tow → (∀ b o, (b ∈ tow.flatten ∨ ∃ o, kp b = some o) → h.get? b = some o → h'.get? b = some o) → Tm C kp h' tmp tow := by
 intro tmp tow x
 induction x with
 | nil => exact fun _ => .nil
 | cons a b ih => exact fun hk => .cons (a.keepsOn fun c o hc e => hk c o (hc.imp_left (List.mem_append_left _)) e) (ih fun c o hc e => hk c o (hc.imp_left (List.mem_append_right _)) e)
theorem Tm.live {kp : PH} {h : Heap} : ∀ {tmp : List (Loc × LV)} {tow : List (List Addr)}, Tm C kp h tmp tow → ∀ {a : Addr}, a ∈ tow.flatten → ∃ o, h.get? a = some o := by
 intro tmp tow x
 induction x with
 | nil => exact fun ha => by cases ha
 | cons x y ih => exact fun ha => (List.mem_append.mp ha).elim x.live ih
theorem Tm.mono {kp kp' : PH} {h : Heap} (hl : PH.le kp kp') : ∀ {tmp : List (Loc × LV)} {tow : List (List Addr)}, Tm C kp h tmp tow → Tm C kp' h tmp tow := by
 intro tmp tow x
 induction x with
 | nil => exact .nil
 | cons a b ih => exact .cons (a.mono hl) ih
theorem SimD.grow {kp : PH} {m : Str → Option Value} {own : Str → List Addr} {tow : List (List Addr)} (S : SimD C kk fk env ρ tmp s kp m own tow) {h' : Heap} {tk : Nat}
 (hk : ∀ b o, s.heap.get? b = some o → h'.get? b = some o) : SimD C kk fk env ρ tmp { s with heap := h', toks := tk } kp m own tow :=
 { S with
  rest := by refine x20 S.rest fun h t e => ?_; exact ⟨h', tk, by rw [e]⟩
  kept := fun a o e => hk _ _ (S.kept a o e)
  fkept := fun a o e => hk _ _ (S.fkept a o e)
  ns := S.ns.keeps hk
  vars := fun x l e => let ⟨v, a, b⟩ := S.vars x l e; ⟨v, a.keeps hk, b.keeps hk⟩
  tmps := S.tmps.keeps hk
  cells := fun x c e => let ⟨⟨v, a⟩, b⟩ := S.cells x c e; ⟨⟨v, a.keeps hk⟩, b⟩ }
theorem SimD.live {kp : PH} {m : Str → Option Value} {own : Str → List Addr} {tow : List (List Addr)} (S : SimD C kk fk env ρ tmp s kp m own tow) {a : Addr} (ha : (∃ x, a ∈ own x) ∨ a ∈ tow.flatten) : ∃ o, s.heap.get? a = some o := by
 rcases ha with ⟨x, hx⟩ | hx
 · cases hr : ρ x with
   | none => rw [S.noVar x hr] at hx; cases hx
   | some l => refine x11 (S.vars x l hr) fun v _ b => ?_; exact b.live hx
 · exact S.tmps.live hx
theorem Sim.toks (S : Sim C kk fk env ρ tmp s) (tk : Nat) : Sim C kk fk env ρ tmp { s with toks := tk } :=
 let ⟨kp, m, own, tow, D⟩ := S; ⟨kp, m, own, tow, D.grow (h' := s.heap) fun _ _ e => e⟩
theorem SimD.pushFr {kp : PH} {m : Str → Option Value} {own : Str → List Addr} {tow : List (List Addr)} (S : SimD C kk fk env ρ tmp s kp m own tow) {p : PV} {v : Value} (hp : Rp kp p v) :
 SimD C kk fk env ρ ((.fr p, .one v) :: tmp) s kp m own ([] :: tow) :=
 { S with tmps := .cons (.fr hp) S.tmps }
theorem Sim.pushImm (S : Sim C kk fk env ρ tmp s) {p : PV} {v : Value} (hp : ∀ kp, Rp kp p v) : Sim C kk fk env ρ ((.fr p, .one v) :: tmp) s :=
 let ⟨kp, m, own, tow, D⟩ := S; ⟨kp, m, own, _, D.pushFr (hp kp)⟩
theorem Sim.pop {l : Loc} {v : LV} (S : Sim C kk fk env ρ ((l, v) :: tmp) s) : Sim C kk fk env ρ tmp s := by
 refine x40 S fun kp m own tow D => ?_; clear S
 refine x22 D.tmps.inv fun own1 tow' z1 h1 h2 => ?_; subst z1
 exact ⟨kp, m, own, tow', { D with
  tmps := h2
  free := fun a h => D.free a (h.imp id fun e => by rw [List.flatten_cons]; exact List.mem_append_right _ e)
  apartT := fun x a h e => D.apartT x a h (by rw [List.flatten_cons]; exact List.mem_append_right _ e)
  towN := by have := D.towN; rw [List.flatten_cons] at this; exact (List.nodup_append.mp this).2.1 }⟩
end
structure Rm (A : Around) (k : Nat) : Prop where
 handled : A.handled = none
 depth : A.depth + k < recursionLimit
 units : A.units + 16 * k + 64 < cLine
theorem Rm.deeper {A : Around} {k : Nat} (h : Rm A (k + 1)) (env : Env) : Rm (A.deeper env) k := ⟨h.handled, by have := h.depth; simp only [Around.deeper]; omega, by have := h.units; simp only [Around.deeper]; omega⟩
def Wf (fk : PH) (env : Env) : Prop := fk env.locals = none ∧ ∀ x c, env.cells.lookup x = some c → env.locals < c → fk c = none
structure Ev (C : Cx) (k : Nat) (env : Env) (ρ : Rho) (e : Expr) (l : Loc) : Prop where
 run : ∀ (A : Around) (kk fk : PH) (tmp : List (Loc × LV)) (s : Shared) (Q : Value → Shared → Prop) (E : Value → Shared → Prop), Rm A k → Sim C kk fk env ρ tmp s → (∀ v s', Sim C kk fk env ρ ((l, .one v) :: tmp) s' → Q v s') → wpAny (model C.prog C.w) A (eval e env) Q E s
structure EvL (C : Cx) (k : Nat) (env : Env) (ρ : Rho) (es : List Expr) (ps : List PV) : Prop where
 run : ∀ (pos : Pos) (A : Around) (kk fk : PH) (tmp : List (Loc × LV)) (s : Shared) (Q : List Value → Shared → Prop) (E : Value → Shared → Prop), Rm A k → Sim C kk fk env ρ tmp s → (∀ vs s', Sim C kk fk env ρ ((.many ps, .many vs) :: tmp) s' → Q vs s') → wpAny (model C.prog C.w) A (spliced (backTo pos (starEach es env))) Q E s
inductive Out where
 | next | brk | cont
 | ret (l : Loc)
def OutQ (C : Cx) (kk fk : PH) (env : Env) (ρ : Rho) (tmp : List (Loc × LV)) (Q : Flow → Shared → Prop) : Out → Prop
 | .next => ∀ s', Sim C kk fk env ρ tmp s' → Q .next s'
 | .brk => ∀ s', Sim C kk fk env ρ tmp s' → Q .brk s'
 | .cont => ∀ s', Sim C kk fk env ρ tmp s' → Q .cont s'
 | .ret l => ∀ v s', Sim C kk fk env ρ ((l, .one v) :: tmp) s' → Q (.ret v) s'
structure Ex (C : Cx) (k : Nat) (env : Env) (ρ : Rho) (st : Stmt) (o : Out) (ρ' : Rho) : Prop where
 run : ∀ (A : Around) (kk fk : PH) (tmp : List (Loc × LV)) (s : Shared) (Q : Flow → Shared → Prop) (E : Value → Shared → Prop), Rm A k → Wf fk env → Sim C kk fk env ρ tmp s → OutQ C kk fk env ρ' tmp Q o → wpAny (model C.prog C.w) A (exec st env) Q E s
structure Exs (C : Cx) (k : Nat) (env : Env) (ρ : Rho) (ss : List Stmt) (o : Out) (ρ' : Rho) : Prop where
 run : ∀ (A : Around) (kk fk : PH) (tmp : List (Loc × LV)) (s : Shared) (Q : Flow → Shared → Prop) (E : Value → Shared → Prop), Rm A k → Wf fk env → Sim C kk fk env ρ tmp s → OutQ C kk fk env ρ' tmp Q o → wpAny (model C.prog C.w) A (execs ss env) Q E s
section
variable {C : Cx} {k : Nat} {env : Env} {ρ ρ' ρ'' : Rho}
theorem Exs.nil : Exs C k env ρ [] .next ρ := .mk fun A kk fk tmp s Q E R W S H => wpAny_execs_nil (H s S)
theorem Exs.cons {st : Stmt} {rest : List Stmt} {o : Out} (h1 : Ex C k env ρ st .next ρ') (h2 : Exs C k env ρ' rest o ρ'') : Exs C k env ρ (st :: rest) o ρ'' := .mk fun A kk fk tmp s Q E R W S H =>
 wpAny_execs_cons (h1.run A kk fk tmp s _ E R W S fun s' S' => h2.run A kk fk tmp s' Q E R W S' H)
theorem Exs.stop {st : Stmt} {rest : List Stmt} {o : Out} (h1 : Ex C k env ρ st o ρ') (ho : o ≠ .next) : Exs C k env ρ (st :: rest) o ρ' := .mk fun A kk fk tmp s Q E R W S H =>
 wpAny_execs_cons (h1.run A kk fk tmp s _ E R W S (by cases o <;> first | exact absurd rfl ho | exact H))
theorem Ev.intC {i : Int} {n : Nat} {pos : Pos} : Ev C k env ρ (.Constant (.int i) n pos) (.fr (.int i)) := .mk fun A kk fk tmp s Q E R S H =>
 wpAny_Constant_int (H _ _ ((S.toks _).pushImm fun _ => .int i _))
theorem Ev.strC {x : Str} {n : Nat} {pos : Pos} : Ev C k env ρ (.Constant (.str x) n pos) (.fr (.str x)) := .mk fun A kk fk tmp s Q E R S H =>
 wpAny_Constant_str (H _ _ ((S.toks _).pushImm fun _ => .str x _))
theorem Ev.noneC {n : Nat} {pos : Pos} : Ev C k env ρ (.Constant .none n pos) (.fr .none) := .mk fun A kk fk tmp s Q E R S H =>
 wpAny_Constant_none (H _ _ (S.pushImm fun _ => .none))
theorem Ev.boolC {b : Bool} {n : Nat} {pos : Pos} : Ev C k env ρ (.Constant (.bool b) n pos) (.fr (.bool b)) := .mk fun A kk fk tmp s Q E R S H =>
 wpAny_Constant_bool (H _ _ (S.pushImm fun _ => .bool b))
theorem Ev.name {x : Str} {pos : Pos} {p : PV} (hx : ρ x = some (.fr p)) (hd : (x == ("__debug__" : Str)) = false := by decide) : Ev C k env ρ (.Name x pos) (.fr p) := .mk fun A kk fk tmp s Q E R S H => by
 refine x40 S fun kp m own tow D => ?_; clear S
 refine x11 (D.vars x _ hx) fun v hv hr => ?_
 obtain ⟨hp, -⟩ := hr.fr_inv
 refine wpAny_Name ?_ hd
 have fin : Q v s := H v s ⟨kp, m, own, _, D.pushFr hp⟩
 rcases hv with ⟨h1, h2⟩ | ⟨h1, c, h2, h3⟩
 · exact wpAny_loadName_local D.kind h1 D.ns h2 fin
 · exact wpAny_loadName_cell D.kind h1 h2 h3 fin
theorem Ev.global {x : Str} {pos : Pos} {v : Value} (hx : env.kindOf x = some .globalImplicit) (hv : C.mg x = some v) (hd : (x == ("__debug__" : Str)) = false := by decide) :
 Ev C k env ρ (.Name x pos) (.fr (.con v)) := .mk fun A kk fk tmp s Q E R S H => by
 refine x40 S fun kp m own tow D => ?_; clear S
 refine Name_function_global D.kind hx (loadGlobal_global (mg := C.mg) ?_ hv (H _ _ ⟨kp, m, own, _, D.pushFr (.con v)⟩)) hd
 rw [D.globals]
 exact C.hg.keeps fun b o e => D.kept _ _ (D.le _ _ (D.base _ _ e))
theorem Ev.builtin {x : Str} {pos : Pos} {v : Value} (hx : env.kindOf x = some .globalImplicit) (hn : C.mg x = none) (hv : C.mb x = some v) (hd : (x == ("__debug__" : Str)) = false := by decide) :
 Ev C k env ρ (.Name x pos) (.fr (.con v)) := .mk fun A kk fk tmp s Q E R S H => by
 refine x40 S fun kp m own tow D => ?_; clear S
 have keep : ∀ b o, C.h₀.get? b = some o → s.heap.get? b = some o := fun b o e => D.kept _ _ (D.le _ _ (D.base _ _ e))
 refine Name_function_global D.kind hx (loadGlobal_builtin (mg := C.mg) (mb := C.mb) ?_ hn ?_ hv (H _ _ ⟨kp, m, own, _, D.pushFr (.con v)⟩)) hd
 · rw [D.globals]; exact C.hg.keeps keep
 · rw [D.builtins]; exact C.hb.keeps keep
theorem EvL.nil : EvL C k env ρ [] [] := .mk fun pos A kk fk tmp s Q E R S H =>
 wpAny_items_nil (H _ _ (by refine x40 S fun kp m own tow D => ?_; clear S; exact ⟨kp, m, own, [] :: tow, { D with tmps := .cons (.many .nil) D.tmps }⟩))
theorem EvL.cons {e : Expr} {es : List Expr} {p : PV} {ps : List PV} (h1 : Ev C k env ρ e (.fr p)) (h2 : EvL C k env ρ es ps)
 (he : starEach (e :: es) env = (false, eval e env) :: starEach es env := by rfl) : EvL C k env ρ (e :: es) (p :: ps) := .mk fun pos A kk fk tmp s Q E R S H =>
 wpAny_items_cons (h1.run A kk fk tmp s _ E R S fun v s1 S1 => h2.run pos A kk fk _ s1 _ E R S1 fun vs s2 S2 => H _ _ (by
  refine x40 S2 fun kp m own tow D => ?_; clear S2
  refine x22 D.tmps.inv fun _ _ z1 h1 h2 => ?_; subst z1
  cases h1 with
  | many hm =>
  cases h2 with
  | cons h3 h4 =>
  cases h3 with
  | fr hp => 
  exact ⟨kp, m, own, _, { D with tmps := .cons (.many (.cons hp hm)) h4, free := fun a h => D.free a (by simpa using h), apartT := fun x a h e => D.apartT x a h (by simpa using e), towN := by simpa using D.towN }⟩)) he
end
section
variable {C : Cx} {k : Nat} {kk fk : PH} {env : Env} {ρ ρ' : Rho} {tmp : List (Loc × LV)} {s : Shared}
theorem Rp.int_inv {kp : PH} {i : Int} {v : Value} (h : Rp kp (.int i) v) : ∃ t, v = .int i t := by cases h; exact ⟨_, rfl⟩
theorem Rp.str_inv {kp : PH} {x : Str} {v : Value} (h : Rp kp (.str x) v) : ∃ t, v = .str x t := by cases h; exact ⟨_, rfl⟩
theorem Rp.bool_inv {kp : PH} {b : Bool} {v : Value} (h : Rp kp (.bool b) v) : v = .bool b := by cases h; rfl
theorem Rp.none_inv {kp : PH} {v : Value} (h : Rp kp .none v) : v = .none := by cases h; rfl
theorem Rp.con_inv {kp : PH} {c v : Value} (h : Rp kp (.con c) v) : v = c := by cases h; rfl
theorem Rp.tup_inv {kp : PH} {xs : List PV} {v : Value} (h : Rp kp (.tup xs) v) : ∃ a o vs n, v = .ref a ∧ kp a = some o ∧ o.cls = .type "tuple" ∧ o.data = .seq vs n ∧ Rps kp xs vs.toList := by cases h; exact ⟨_, _, _, _, rfl, by assumption, by assumption, by assumption, by assumption⟩
theorem Rp.lst_inv' {kp : PH} {xs : List PV} {v : Value} (h : Rp kp (.lst xs) v) : ∃ a vs n, v = .ref a ∧ kp a = some { cls := .type "list", data := .seq vs n } ∧ Rps kp xs vs.toList := by cases h; exact ⟨_, _, _, rfl, by assumption, by assumption⟩
theorem Rp.lst_inv {kp : PH} {xs : List PV} {v : Value} (h : Rp kp (.lst xs) v) : ∃ a o vs n, v = .ref a ∧ kp a = some o ∧ o.cls = .type "list" ∧ o.data = .seq vs n ∧ Rps kp xs vs.toList := by
 refine x32 h.lst_inv' fun a vs n h1 h2 h3 => ?_
 exact ⟨a, _, vs, n, h1, h2, rfl, rfl, h3⟩
theorem SimD.top {p : PV} {v : Value} {kp : PH} {m : Str → Option Value} {own : Str → List Addr} {tow : List (List Addr)} (D : SimD C kk fk env ρ ((.fr p, .one v) :: tmp) s kp m own tow) :
 ∃ tow', tow = [] :: tow' ∧ Rp kp p v ∧ SimD C kk fk env ρ tmp s kp m own tow' := by
 refine x22 D.tmps.inv fun _ _ z1 h1 h2 => ?_; subst z1
 obtain ⟨hp, rfl⟩ := h1.fr_inv
 exact ⟨_, rfl, hp, { D with tmps := h2, free := fun a h => D.free a (by simpa using h), apartT := fun x a h e => D.apartT x a h (by simpa using e), towN := by simpa using D.towN }⟩
theorem SimD.topMany {ps : List PV} {vs : List Value} {kp : PH} {m : Str → Option Value} {own : Str → List Addr} {tow : List (List Addr)} (D : SimD C kk fk env ρ ((.many ps, .many vs) :: tmp) s kp m own tow) :
 ∃ tow', tow = [] :: tow' ∧ Rps kp ps vs ∧ SimD C kk fk env ρ tmp s kp m own tow' := by
 refine x22 D.tmps.inv fun _ _ z1 h1 h2 => ?_; subst z1
 obtain ⟨rfl, hp⟩ := h1.many_inv
 exact ⟨_, rfl, hp, { D with tmps := h2, free := fun a h => D.free a (by simpa using h), apartT := fun x a h e => D.apartT x a h (by simpa using e), towN := by simpa using D.towN }⟩
theorem Sim.top {p : PV} {v : Value} (S : Sim C kk fk env ρ ((.fr p, .one v) :: tmp) s) : ∃ kp, Rp kp p v ∧ (∀ a o, kp a = some o → s.heap.get? a = some o) ∧ Sim C kk fk env ρ tmp s := by
 refine x40 S fun kp m own tow D => ?_; clear S
 refine x12 D.top fun tow' _ hp D' => ?_
 exact ⟨kp, hp, D.kept, _, _, _, _, D'⟩
theorem SimD.allocKp {kp : PH} {m : Str → Option Value} {own : Str → List Addr} {tow : List (List Addr)} (D : SimD C kk fk env ρ tmp s kp m own tow) (o : Obj) (hf : o.isFreed = false) (tk : Nat) :
 SimD C kk fk env ρ tmp { s with heap := s.heap.push o, toks := tk } (fun a => if a = s.heap.objs.size then some o else kp a) m own tow ∧ PH.le kp (fun a => if a = s.heap.objs.size then some o else kp a) := by
 have hk : ∀ b ob, s.heap.get? b = some ob → (s.heap.push o).get? b = some ob := fun b ob e => Heap.get?_push_of_some o e
 have nw : ∀ (f : PH), (∀ a o, f a = some o → s.heap.get? a = some o) → f s.heap.objs.size = none := fun f hf => by
  cases e : f s.heap.objs.size with
  | none => rfl
  | some o' => exact absurd (Heap.lt_size (hf _ _ e)) (Nat.lt_irrefl _)
 have hle : PH.le kp (fun a => if a = s.heap.objs.size then some o else kp a) := fun a o' e => by
  have : a ≠ s.heap.objs.size := fun h => by subst h; rw [nw kp D.kept] at e; cases e
  simp [this, e]
 have G := D.grow (h' := s.heap.push o) (tk := tk) hk
 have lenv : env.locals ≠ s.heap.objs.size := Nat.ne_of_lt D.ns.lt
 refine ⟨{ G with
  le := fun a o' e => hle _ _ (D.le a o' e)
  kept := fun a o' e => ?_
  kf := fun a o' e => ?_
  nl := by simp [lenv, D.nl]
  vars := fun x l e => let ⟨v, a, b⟩ := G.vars x l e; ⟨v, a, b.mono hle⟩
  tmps := G.tmps.mono hle
  free := fun a h => ?_
  wcell := ⟨fun x c e hw => ?_, D.wcell.2⟩ }, hle⟩
 · split at e
   · rename_i h; subst h; obtain rfl := si e; exact Heap.get?_push_size _ hf
   · exact hk _ _ (D.kept _ _ e)
 · have : a ≠ s.heap.objs.size := fun h => by subst h; rw [nw fk D.fkept] at e; cases e
   simp [this, D.kf a o' e]
 · refine x03 (D.free a h) fun h1 h2 h3 h4 => ?_
   refine ⟨?_, h2, h3, h4⟩
   have : a ≠ s.heap.objs.size := fun q => by
    obtain ⟨o1, e1⟩ := D.live h
    subst q
    exact absurd (Heap.lt_size e1) (Nat.lt_irrefl _)
   simp [this, h1]
 · have hc := D.wcell.1 x c e hw
   obtain ⟨⟨v, hcell⟩, -⟩ := D.cells x c e
   have : c ≠ s.heap.objs.size := Nat.ne_of_lt hcell.lt
   simp [this, hc]
theorem Sim.newTuple {ps : List PV} {vs : List Value} (S : Sim C kk fk env ρ ((.many ps, .many vs) :: tmp) s) :
 Sim C kk fk env ρ ((.fr (.tup ps), .one (.ref s.heap.objs.size)) :: tmp) { s with heap := s.heap.push { cls := .type "tuple", data := .seq vs.toArray } } := by
 refine x40 S fun kp m own tow D => ?_; clear S
 refine x12 D.topMany fun tow' _ hp D' => ?_
 obtain ⟨D2, hle⟩ := D'.allocKp { cls := .type "tuple", data := .seq vs.toArray } rfl s.toks
 exact ⟨_, m, own, _, D2.pushFr (.tup (a := s.heap.objs.size) (o := { cls := .type "tuple", data := .seq vs.toArray }) (by simp) rfl rfl (by simpa using hp.mono hle))⟩
theorem Sim.newList {ps : List PV} {vs : List Value} (S : Sim C kk fk env ρ ((.many ps, .many vs) :: tmp) s) (tk : Nat) :
 Sim C kk fk env ρ ((.ol ps, .one (.ref s.heap.objs.size)) :: tmp) { s with heap := s.heap.push { cls := .type "list", data := .seq vs.toArray }, toks := tk } := by
 refine x40 S fun kp m own tow D => ?_; clear S
 refine x12 D.topMany fun tow' _ hp D' => ?_
 have nw : ∀ (f : PH), (∀ a o, f a = some o → s.heap.get? a = some o) → f s.heap.objs.size = none := fun f hf => by
  cases e : f s.heap.objs.size with
  | none => rfl
  | some o' => exact absurd (Heap.lt_size (hf _ _ e)) (Nat.lt_irrefl _)
 obtain ⟨D2, -⟩ := D'.allocKp { cls := .type "list", data := .seq vs.toArray } rfl tk
 have hnew : ∀ a, ((∃ x, a ∈ own x) ∨ a ∈ tow'.flatten) → a ≠ s.heap.objs.size := fun a h e => by
  have := (D2.free a h).1
  subst e
  simp at this
 have G := D'.grow (h' := s.heap.push { cls := .type "list", data := .seq vs.toArray }) (tk := tk) fun b o e => Heap.get?_push_of_some _ e
 refine ⟨kp, m, own, [s.heap.objs.size] :: tow', { G with
  tmps := .cons (.ol ⟨_, Heap.get?_push_size _ rfl⟩ (by simpa using hp)) G.tmps
  free := fun a h => ?_
  apartT := fun x a h e => ?_
  towN := ?_ }⟩
 · by_cases q : a = s.heap.objs.size
   · subst q
     exact ⟨nw kp D.kept, nw fk D.fkept, (Nat.ne_of_lt D.ns.lt).symm, fun y c e => Nat.ne_of_lt (let ⟨⟨v, hc⟩, _⟩ := D.cells y c e; hc.lt)⟩
   · exact G.free a (h.imp id fun e => by simpa [q] using e)
 · simp only [List.flatten_cons, List.mem_append, List.mem_singleton] at e
   rcases e with e | e
   · exact hnew a (.inl ⟨x, h⟩) e
   · exact G.apartT x a h e
 · simp only [List.flatten_cons, List.singleton_append, List.nodup_cons]
   exact ⟨fun h => hnew _ (.inr h) rfl, G.towN⟩
theorem Ev.tuple {es : List Expr} {ps : List PV} {n : Nat} {pos : Pos} (h : EvL C k env ρ es ps) (hs : ps.length ≤ sizeLine := by decide) : Ev C k env ρ (.Tuple es n pos) (.fr (.tup ps)) := .mk fun A kk fk tmp s Q E R S H =>
 wpAny_Tuple (h.run pos A kk fk tmp s _ E R S fun vs s' S' => ⟨by refine x40 S' fun kp m own tow D => ?_; clear S'; refine x12 D.topMany fun _ _ hp _ => ?_; rw [hp.length]; exact hs, H _ _ S'.newTuple⟩)
theorem Ev.list {es : List Expr} {ps : List PV} {pos : Pos} (h : EvL C k env ρ es ps) (hs : ps.length ≤ sizeLine := by decide) : Ev C k env ρ (.List es pos) (.ol ps) := .mk fun A kk fk tmp s Q E R S H =>
 wpAny_List (h.run pos A kk fk tmp s _ E R S fun vs s' S' => ⟨by refine x40 S' fun kp m own tow D => ?_; clear S'; refine x12 D.topMany fun _ _ hp _ => ?_; rw [hp.length]; exact hs, H _ _ (S'.newList s'.toks)⟩)
theorem Sim.freeze {xs : List PV} {v : Value} (S : Sim C kk fk env ρ ((.ol xs, .one v) :: tmp) s) : Sim C kk fk env ρ ((.fr (.lst xs), .one v) :: tmp) s := by
 refine x40 S fun kp m own tow D => ?_; clear S
 refine x22 D.tmps.inv fun own1 tow' z1 h1 h2 => ?_; subst z1
 refine x23 h1.ol_inv fun a vs z1 z2 hl hs => ?_; subst z1; subst z2
 obtain ⟨n, ho⟩ := hl
 obtain ⟨o, hoe⟩ : ∃ o : Obj, o = { cls := .type "list", data := .seq vs n } := ⟨_, rfl⟩
 rw [← hoe] at ho
 have hfree := D.free a (.inr (by simp))
 have hle : PH.le kp (fun b => if b = a then some o else kp b) := fun b o' e => by
  have : b ≠ a := fun q => by subst q; rw [hfree.1] at e; cases e
  simp [this, e]
 have hown : ∀ x, a ∉ own x := fun x h => D.apartT x a h (by simp)
 have htn := D.towN
 simp only [List.flatten_cons, List.singleton_append, List.nodup_cons] at htn
 refine ⟨fun b => if b = a then some o else kp b, m, own, [] :: tow', { D with
  le := fun b o' e => hle _ _ (D.le _ _ e)
  kept := fun b o' e => ?_
  kf := fun b o' e => ?_
  nl := by simp [hfree.2.2.1.symm, D.nl]
  vars := fun x l e => let ⟨v, p, q⟩ := D.vars x l e; ⟨v, p, q.mono hle⟩
  tmps := .cons (.fr (.lst (n := n) (by simp [hoe]) (hs.mono hle))) (h2.mono hle)
  free := fun b h => ?_
  apartT := fun x b h e => D.apartT x b h (by simp at e ⊢; exact .inr e)
  towN := by simpa using htn.2
  wcell := ⟨fun x c e hw => ?_, D.wcell.2⟩ }⟩
 · split at e
   · rename_i q; subst q; obtain rfl := si e; exact ho
   · exact D.kept _ _ e
 · have : b ≠ a := fun q => by subst q; rw [hfree.2.1] at e; cases e
   simp [this, D.kf b o' e]
 · have hb : b ≠ a := fun q => by
    subst q
    rcases h with ⟨x, hx⟩ | hx
    · exact hown x hx
    · exact htn.1 (by simpa using hx)
   refine x03 (D.free b (h.imp id fun e => by simp at e ⊢; exact .inr e)) fun q1 q2 q3 q4 => ?_
   exact ⟨by simp [hb, q1], q2, q3, q4⟩
 · have := hfree.2.2.2 x c e
   have hcc := D.wcell.1 x c e hw
   simp [this, hcc]
theorem Ev.freeze {e : Expr} {xs : List PV} (h : Ev C k env ρ e (.ol xs)) : Ev C k env ρ e (.fr (.lst xs)) := .mk fun A kk fk tmp s Q E R S H =>
 h.run A kk fk tmp s Q E R S fun v s' S' => H v s' S'.freeze
structure P2 (C : Cx) (k : Nat) (f : Value → Value → Sem Value) (a b : PV) (l : Loc) : Prop where
 run : ∀ (A : Around) (kk fk : PH) (env : Env) (ρ : Rho) (tmp : List (Loc × LV)) (va vb : Value) (s : Shared) (Q : Value → Shared → Prop) (E : Value → Shared → Prop), Rm A k → Sim C kk fk env ρ ((.fr b, .one vb) :: (.fr a, .one va) :: tmp) s → (∀ v s', Sim C kk fk env ρ ((l, .one v) :: tmp) s' → Q v s') → wpAny (model C.prog C.w) A (f va vb) Q E s
abbrev Imm (p : PV) (v : Value) : Prop := ∀ kp, Rp kp p v
theorem P2.ii {f : Value → Value → Sem Value} {i j : Int} {r : PV}
 (hf : ∀ (A : Around) (s : Shared) (t u : Tok) (Q : Value → Shared → Prop) (E : Value → Shared → Prop), Rm A k → (∀ v tk, Imm r v → Q v { s with toks := tk }) → wpAny (model C.prog C.w) A (f (.int i t) (.int j u)) Q E s) :
 P2 C k f (.int i) (.int j) (.fr r) := .mk fun A kk fk env ρ tmp va vb s Q E R S H => by
 refine x12 S.top fun kp hb _ S1 => ?_
 refine x12 S1.top fun kp' ha _ S2 => ?_
 obtain ⟨t, rfl⟩ := ha.int_inv
 obtain ⟨u, rfl⟩ := hb.int_inv
 exact hf A s t u Q E R fun v tk hv => H v _ ((S2.toks tk).pushImm hv)
theorem P2.ss {f : Value → Value → Sem Value} {i j : Str} {r : PV}
 (hf : ∀ (A : Around) (s : Shared) (t u : Tok) (Q : Value → Shared → Prop) (E : Value → Shared → Prop), Rm A k → (∀ v tk, Imm r v → Q v { s with toks := tk }) → wpAny (model C.prog C.w) A (f (.str i t) (.str j u)) Q E s) :
 P2 C k f (.str i) (.str j) (.fr r) := .mk fun A kk fk env ρ tmp va vb s Q E R S H => by
 refine x12 S.top fun kp hb _ S1 => ?_
 refine x12 S1.top fun kp' ha _ S2 => ?_
 obtain ⟨t, rfl⟩ := ha.str_inv
 obtain ⟨u, rfl⟩ := hb.str_inv
 exact hf A s t u Q E R fun v tk hv => H v _ ((S2.toks tk).pushImm hv)
theorem P2.si {f : Value → Value → Sem Value} {i : Str} {j : Int} {r : PV}
 (hf : ∀ (A : Around) (s : Shared) (t u : Tok) (Q : Value → Shared → Prop) (E : Value → Shared → Prop), Rm A k → (∀ v tk, Imm r v → Q v { s with toks := tk }) → wpAny (model C.prog C.w) A (f (.str i t) (.int j u)) Q E s) :
 P2 C k f (.str i) (.int j) (.fr r) := .mk fun A kk fk env ρ tmp va vb s Q E R S H => by
 refine x12 S.top fun kp hb _ S1 => ?_
 refine x12 S1.top fun kp' ha _ S2 => ?_
 obtain ⟨t, rfl⟩ := ha.str_inv
 obtain ⟨u, rfl⟩ := hb.int_inv
 exact hf A s t u Q E R fun v tk hv => H v _ ((S2.toks tk).pushImm hv)
theorem Ev.binop {l r : Expr} {op : Operator} {pos : Pos} {a b : PV} {x : Loc} (h1 : Ev C k env ρ l (.fr a)) (h2 : Ev C k env ρ r (.fr b)) (h : P2 C k (binaryOp op) a b x) :
 Ev C k env ρ (.BinOp l op r pos) x := .mk fun A kk fk tmp s Q E R S H =>
 wpAny_BinOp (h1.run A kk fk tmp s _ E R S fun va s1 S1 => h2.run A kk fk _ s1 _ E R S1 fun vb s2 S2 => h.run A kk fk env ρ tmp va vb s2 Q E R S2 H)
theorem P2.addI {i j : Int} : P2 C k (binaryOp .Add) (.int i) (.int j) (.fr (.int (i + j))) := .ii fun A s t u Q E R H => PyProof.Rows.add_int (H _ _ fun _ => .int _ _)
theorem P2.subI {i j : Int} : P2 C k (binaryOp .Sub) (.int i) (.int j) (.fr (.int (i - j))) := .ii fun A s t u Q E R H => PyProof.Rows.sub_int (H _ _ fun _ => .int _ _)
theorem P2.mulI {i j : Int} (hm : IntMulOk i j) : P2 C k (binaryOp .Mult) (.int i) (.int j) (.fr (.int (i * j))) := .ii fun A s t u Q E R H => PyProof.Rows.mul_int (H _ _ fun _ => .int _ _) hm
theorem P2.modI {i j : Int} (hj : j ≠ 0 := by decide) : P2 C k (binaryOp .Mod) (.int i) (.int j) (.fr (.int (i.fmod j))) := .ii fun A s t u Q E R H => PyProof.Rows.mod_int hj (H _ _ fun _ => .int _ _)
theorem P2.divI {i j : Int} (hj : j ≠ 0 := by decide) (hp : Builtin.divisionGoesByPylong i j = false) : P2 C k (binaryOp .FloorDiv) (.int i) (.int j) (.fr (.int (i.fdiv j))) := .ii fun A s t u Q E R H => PyProof.Rows.floordiv_int hj (H _ _ fun _ => .int _ _) (.inl hp)
theorem P2.rshI {i j : Int} (hj : 0 ≤ j) : P2 C k (binaryOp .RShift) (.int i) (.int j) (.fr (.int (i.fdiv (2 ^ j.toNat)))) := .ii fun A s t u Q E R H => PyProof.Rows.rshift_int hj (H _ _ fun _ => .int _ _)
theorem P2.andI {i j : Int} : P2 C k (binaryOp .BitAnd) (.int i) (.int j) (.fr (.int (Builtin.bitAnd i j))) := .ii fun A s t u Q E R H => PyProof.Rows.and_int (H _ _ fun _ => .int _ _)
theorem P2.addS {x y : Str} (h : x.length + y.length ≤ sizeLine) : P2 C k (binaryOp .Add) (.str x) (.str y) (.fr (.str (x ++ y))) := .ss fun A s t u Q E R H => PyProof.Rows.add_str (fun t' tk => H _ _ fun _ => .str _ _) h
theorem P2.ltI {i j : Int} : P2 C k (compareOp .Lt) (.int i) (.int j) (.fr (.bool (decide (i < j)))) := .ii fun A s t u Q E R H => PyProof.Rows.lt_int (H _ _ fun _ => .bool _)
theorem P2.leI {i j : Int} : P2 C k (compareOp .LtE) (.int i) (.int j) (.fr (.bool (decide (i ≤ j)))) := .ii fun A s t u Q E R H => PyProof.Rows.le_int (H _ _ fun _ => .bool _)
theorem P2.gtI {i j : Int} : P2 C k (compareOp .Gt) (.int i) (.int j) (.fr (.bool (decide (j < i)))) := .ii fun A s t u Q E R H => PyProof.Rows.gt_int (H _ _ fun _ => .bool _)
theorem P2.geI {i j : Int} : P2 C k (compareOp .GtE) (.int i) (.int j) (.fr (.bool (decide (j ≤ i)))) := .ii fun A s t u Q E R H => PyProof.Rows.ge_int (H _ _ fun _ => .bool _)
theorem P2.eqI {i j : Int} : P2 C k (compareOp .Eq) (.int i) (.int j) (.fr (.bool (i == j))) := .ii fun A s t u Q E R H => PyProof.Rows.eq_int (H _ _ fun _ => .bool _)
theorem P2.eqS {i j : Str} : P2 C k (compareOp .Eq) (.str i) (.str j) (.fr (.bool (i == j))) := .ss fun A s t u Q E R H => PyProof.Rows.eq_str (H _ _ fun _ => .bool _)
theorem P2.neS {i j : Str} : P2 C k (compareOp .NotEq) (.str i) (.str j) (.fr (.bool (i != j))) := .ss fun A s t u Q E R H => PyProof.Rows.ne_str (H _ _ fun _ => .bool _)
theorem Ev.compare1 {l r : Expr} {op : CmpOp} {pos : Pos} {a b : PV} {x : Loc} (h1 : Ev C k env ρ l (.fr a)) (h2 : Ev C k env ρ r (.fr b)) (h : P2 C k (compareOp op) a b x)
 (hm : behindInMarks op r = false := by with_unfolding_all rfl) : Ev C k env ρ (.Compare l [op] [r] pos) x := .mk fun A kk fk tmp s Q E R S H =>
 wpAny_Compare1 (h1.run A kk fk tmp s _ E R S fun va s1 S1 => h2.run A kk fk _ s1 _ E R S1 fun vb s2 S2 => h.run A kk fk env ρ tmp va vb s2 Q E R S2 H) hm
def Pidx (C : Cx) (k : Nat) (a b : PV) (l : Loc) : Prop := ∀ (value slice : Expr) (hs : ∀ x y, subscripted slice false x y = operate [x, y] (getItem x y)), P2 C k (subscriptTail value slice) a b l
theorem Ev.item {v i : Expr} {pos : Pos} {a b : PV} {x : Loc} (h1 : Ev C k env ρ v (.fr a)) (h2 : Ev C k env ρ i (.fr b)) (h : Pidx C k a b x)
 (hs : ∀ x y, subscripted i false x y = operate [x, y] (getItem x y) := by intro _ _; with_unfolding_all rfl) : Ev C k env ρ (.Subscript v i pos) x := .mk fun A kk fk tmp s Q E R S H =>
 Subscript_ (h1.run A kk fk tmp s _ E R S fun va s1 S1 => h2.run A kk fk _ s1 _ E R S1 fun vb s2 S2 => (h v i hs).run A kk fk env ρ tmp va vb s2 Q E R S2 H)
theorem Pidx.tup {xs : List PV} {i : Int} {j : Nat} {p : PV} (hlo : -(2 ^ 63) ≤ i) (hhi : i < 2 ^ 63) (hj : seqIndex? i xs.length = some j) (hx : xs[j]? = some p) : Pidx C k (.tup xs) (.int i) (.fr p) :=
 fun value slice hs => .mk fun A kk fk env ρ tmp va vb s Q E R S H => by
 refine x40 S fun kp m own tow D => ?_; clear S
 refine x12 D.top fun tow1 _ hb D1 => ?_
 refine x12 D1.top fun tow2 _ ha D2 => ?_
 obtain ⟨t, rfl⟩ := hb.int_inv
 refine x44 ha.tup_inv fun a o vs n z1 hk hc hd hr => ?_; subst z1
 refine x11 (hr.get hx) fun v hv hp => ?_
 have ht : IsTup s.heap a vs.toList.toArray := ⟨o, D.kept _ _ hk, hc, n, by simpa using hd⟩
 exact item_tupleT ht hlo hhi (by rw [hr.length]; exact hj) hv (H v s ⟨kp, m, own, _, D2.pushFr hp⟩) (hs _ _)
theorem Pidx.lst {xs : List PV} {i : Int} {p : PV} (h0 : 0 ≤ i) (hhi : i < 2 ^ 63) (hx : xs[i.toNat]? = some p) : Pidx C k (.lst xs) (.int i) (.fr p) :=
 fun value slice hs => .mk fun A kk fk env ρ tmp va vb s Q E R S H => by
 refine x40 S fun kp m own tow D => ?_; clear S
 refine x12 D.top fun tow1 _ hb D1 => ?_
 refine x12 D1.top fun tow2 _ ha D2 => ?_
 obtain ⟨t, rfl⟩ := hb.int_inv
 refine x44 ha.lst_inv fun a o vs n z1 hk hc hd hr => ?_; subst z1
 refine x11 (hr.get hx) fun v hv hp => ?_
 have hl : s.heap.IsList a vs := ⟨o, D.kept _ _ hk, hc, n, hd⟩
 exact tail_any hl.typeIs slot_list_getitem.lookup (wpAny_getItem_list hl h0 hhi (by simpa using hv) (H v s ⟨kp, m, own, _, D2.pushFr hp⟩)) (hs _ _)
theorem Pidx.str {x : Str} {i : Int} {c : Nat} (hlo : -(2 ^ 63) ≤ i) (hhi : i < 2 ^ 63) (hc : (seqIndex? i x.length).bind (x.cps[·]?) = some c) : Pidx C k (.str x) (.int i) (.fr (.str ⟨#[c]⟩)) :=
 fun value slice hs => .si fun A s t u Q E R H =>
  tail_any (typeIs_str s x t) slot_str_getitem.lookup (PyProof.Rows.getItem_str (by simp; omega) hc (H _ _ fun _ => .str _ _)) (hs _ _)
theorem Sim.store {x : Str} {l : Loc} {v : Value} {A : Around} {E : Value → Shared → Prop} {Q : Unit → Shared → Prop} (W : Wf fk env) (S : Sim C kk fk env ρ ((l, .one v) :: tmp) s)
 (hx : env.kindOf x = some .local ∨ (env.kindOf x = some .cell ∧ ∃ c, env.cells.lookup x = some c ∧ env.locals < c))
 (H : ∀ s', Sim C kk fk env (upd ρ x l) tmp s' → Q () s') : wpAny (model C.prog C.w) A (storeName env x v) Q E s := by
 refine x40 S fun kp m own tow D => ?_; clear S
 refine x22 D.tmps.inv fun own1 tow' z1 h1 h2 => ?_; subst z1
 have htn := D.towN
 rw [List.flatten_cons] at htn
 refine x02 (List.nodup_append.mp htn) fun n1 n2 n3 => ?_
 have own1Free : ∀ a ∈ own1, kp a = none ∧ fk a = none ∧ a ≠ env.locals ∧ ∀ y c, env.cells.lookup y = some c → c ≠ a := fun a h => D.free a (.inr (by rw [List.flatten_cons]; exact List.mem_append_left _ h))
 have build : ∀ (m' : Str → Option Value) (h' : Heap) (tk : Nat) (L : Addr), (∀ b, b ≠ L → h'.get? b = s.heap.get? b) → (kp L = none ∧ fk L = none) → (∀ b o, h'.get? b = some o → b = L ∨ s.heap.get? b = some o) →
  h'.Ns env.locals m' → (∀ y w, y ≠ x → VarAt env s.heap m y w → VarAt env h' m' y w) → VarAt env h' m' x v → (∀ a, (((∃ x, a ∈ own x) ∨ a ∈ (own1 :: tow').flatten)) → a ≠ L) →
  (∀ y c, env.cells.lookup y = some c → ∃ w, h'.IsCell c w) → Sim C kk fk env (upd ρ x l) tmp { s with heap := h', toks := tk } := by
  intro m' h' tk L hoth hL _ hns hvars hvx hownL hcells
  have kpL : ∀ b o, kp b = some o → b ≠ L := fun b o e q => by subst q; rw [hL.1] at e; cases e
  have keepR : ∀ {l : Loc} {v : LV} {ow : List Addr}, RpL C kp s.heap l v ow → (∀ a ∈ ow, a ≠ L) → RpL C kp h' l v ow := fun hr ho =>
   hr.keepsOn fun b o hb e => (hoth b (hb.elim (ho b) fun ⟨o, e⟩ => kpL b o e)).trans e
  have keepT : ∀ {tmp : List (Loc × LV)} {tow : List (List Addr)}, Tm C kp s.heap tmp tow → (∀ a ∈ tow.flatten, a ≠ L) → Tm C kp h' tmp tow := fun ht ho =>
   ht.keepsOn fun b o hb e => (hoth b (hb.elim (ho b) fun ⟨o, e⟩ => kpL b o e)).trans e
  refine ⟨kp, m', fun y => if y = x then own1 else own y, tow', { D with
   rest := by refine x20 D.rest fun h t e => ?_; exact ⟨h', tk, by rw [e]⟩
   kept := fun a o e => (hoth a fun q => by subst q; rw [hL.1] at e; cases e).trans (D.kept a o e)
   fkept := fun a o e => (hoth a fun q => by subst q; rw [hL.2] at e; cases e).trans (D.fkept a o e)
   ns := hns
   vars := fun y l' e => ?_
   noVar := fun y e => ?_
   tmps := keepT h2 fun a h => hownL a (.inr (by rw [List.flatten_cons]; exact List.mem_append_right _ h))
   free := fun a h => ?_
   apart := fun y z a h1 h2 => ?_
   apartT := fun y a h e => ?_
   towN := n2
   cells := fun y c e => ⟨hcells y c e, (D.cells y c e).2⟩ }⟩
  · unfold upd at e
    by_cases hy : y = x
    · subst hy
      simp only [if_true, Option.some.injEq] at e
      subst e
      refine ⟨v, hvx, ?_⟩
      simp only [if_true]
      exact keepR h1 fun a h => hownL a (.inr (by rw [List.flatten_cons]; exact List.mem_append_left _ h))
    · simp only [if_neg hy] at e ⊢
      refine x11 (D.vars y l' e) fun w p q => ?_
      exact ⟨w, hvars y w hy p, keepR q fun a h => hownL a (.inl ⟨y, h⟩)⟩
  · unfold upd at e
    by_cases hy : y = x
    · simp [hy] at e
    · simp only [if_neg hy] at e ⊢
      exact D.noVar y e
  · rcases h with ⟨y, hy⟩ | h
    · split at hy
      · exact own1Free a hy
      · exact D.free a (.inl ⟨y, hy⟩)
    · exact D.free a (.inr (by rw [List.flatten_cons]; exact List.mem_append_right _ h))
  · split at h1 <;> split at h2
    · subst_vars; rfl
    · exact absurd (by rw [List.flatten_cons]; exact List.mem_append_left _ h1) (D.apartT z a h2)
    · exact absurd (by rw [List.flatten_cons]; exact List.mem_append_left _ h2) (D.apartT y a h1)
    · exact D.apart y z a h1 h2
  · split at h
    · exact n3 a h a e rfl
    · exact D.apartT y a h (by rw [List.flatten_cons]; exact List.mem_append_right _ e)
 have hp : (env.scope.kind == .class || (env.scope.kind == .module && env.locals != env.globals)) = false := by rw [D.kind]; rfl
 rcases hx with hx | ⟨hx, c, hc, hlt⟩
 · refine wpAny_storeName_local hx D.ns (fun h' hn hs => H _ (build _ h' _ env.locals hs.2 ⟨D.nl, W.1⟩ (fun b o e => ?_) hn (fun y w hy hv => ?_) (.inl ⟨hx, by simp⟩) (fun a h => (D.free a h).2.2.1) (fun y c e => ?_))) hp
   · by_cases hb : b = env.locals
     · exact .inl hb
     · exact .inr ((hs.2 b hb).symm.trans e)
   · rcases hv with ⟨a, b⟩ | ⟨a, c, b, d⟩
     · exact .inl ⟨a, by simp [hy, b]⟩
     · exact .inr ⟨a, c, b, d.sameBut hs (D.cells y c b).2⟩
   · obtain ⟨⟨w, hc⟩, hne⟩ := D.cells y c e
     exact ⟨w, hc.sameBut hs hne⟩
 · obtain ⟨⟨w0, hcell⟩, hne⟩ := D.cells x c hc
   obtain ⟨wc1, wc2⟩ := D.wcell
   refine wpAny_storeName_cell D.kind hx hc hcell (fun h' hn hs => H _ (build m h' s.toks c hs.2 ⟨wc1 x c hc hlt, W.2 x c hc hlt⟩ (fun b o e => ?_) (D.ns.sameBut hs (Ne.symm hne)) (fun y w hy hv => ?_) (.inr ⟨hx, c, hc, hn⟩) (fun a h => ((D.free a h).2.2.2 x c hc).symm) (fun y c' e => ?_)))
   · by_cases hb : b = c
     · exact .inl hb
     · exact .inr ((hs.2 b hb).symm.trans e)
   · rcases hv with ⟨a, b⟩ | ⟨a, c', b, d⟩
     · exact .inl ⟨a, b⟩
     · exact .inr ⟨a, c', b, d.sameBut hs fun q => hy (wc2 x y c hc hlt (q ▸ b)).symm⟩
   · by_cases q : c' = c
     · subst q; exact ⟨_, hn⟩
     · obtain ⟨⟨w, hc'⟩, -⟩ := D.cells y c' e
       exact ⟨w, hc'.sameBut hs q⟩
def Stores (env : Env) (x : Str) : Prop := env.kindOf x = some .local ∨ (env.kindOf x = some .cell ∧ ∃ c, env.cells.lookup x = some c ∧ env.locals < c)
theorem Ex.assign {x : Str} {px pos : Pos} {e : Expr} {l : Loc} (h : Ev C k env ρ e l) (hx : Stores env x) (hs : swapsWith e (some (.Name x px)) pos.line env = pure false := by rfl) :
 Ex C k env ρ (.Assign [.Name x px] e pos) .next (upd ρ x l) := .mk fun A kk fk tmp s Q E R W S H =>
 wpAny_Assign_Name (h.run A kk fk tmp s _ E R S fun v s1 S1 => S1.store W hx fun s2 S2 => H s2 S2) hs
theorem Ex.ret {e : Expr} {pos : Pos} {l : Loc} (h : Ev C k env ρ e l) : Ex C k env ρ (.Return (some e) pos) (.ret l) ρ := .mk fun A kk fk tmp s Q E R W S H =>
 wpAny_Return_some (h.run A kk fk tmp s _ E R S fun v s1 S1 => H v s1 S1)
end
section
variable {C : Cx} {k : Nat} {kk fk : PH} {env : Env} {ρ ρ' : Rho} {tmp : List (Loc × LV)} {s : Shared}
structure Pt (C : Cx) (k : Nat) (p : PV) (b : Bool) : Prop where
 run : ∀ (A : Around) (kk fk : PH) (env : Env) (ρ : Rho) (tmp : List (Loc × LV)) (v : Value) (s : Shared) (Q : Bool → Shared → Prop) (E : Value → Shared → Prop), Rm A k → Sim C kk fk env ρ ((.fr p, .one v) :: tmp) s → (∀ s', Sim C kk fk env ρ tmp s' → Q b s') → wpAny (model C.prog C.w) A (truthy v) Q E s
theorem Pt.bool {b : Bool} : Pt C k (.bool b) b := .mk fun A kk fk env ρ tmp v s Q E R S H => by
 refine x12 S.top fun kp h _ S1 => ?_
 obtain rfl := h.bool_inv
 exact wpAny_truthy_bool (H s S1)
theorem Pt.int {i : Int} : Pt C k (.int i) (i != 0) := .mk fun A kk fk env ρ tmp v s Q E R S H => by
 refine x12 S.top fun kp h _ S1 => ?_
 obtain ⟨t, rfl⟩ := h.int_inv
 exact PyProof.Rows.truthy_int (H s S1)
structure Ts (C : Cx) (k : Nat) (env : Env) (ρ : Rho) (e : Expr) (b : Bool) : Prop where
 run : ∀ (A : Around) (kk fk : PH) (tmp : List (Loc × LV)) (s : Shared) (Q : Bool → Shared → Prop) (E : Value → Shared → Prop), Rm A k → Sim C kk fk env ρ tmp s → (∀ s', Sim C kk fk env ρ tmp s' → Q b s') → wpAny (model C.prog C.w) A (isTrue e env (eval e env)) Q E s
theorem Ts.val {e : Expr} {p : PV} {b : Bool} (h : Ev C k env ρ e (.fr p)) (hp : Pt C k p b) (he : ∀ whole, isTrue e env whole = (do let v ← whole; standAt e.pos; holding [v] (truthy v)) := by intro _; rfl) : Ts C k env ρ e b :=
 .mk fun A kk fk tmp s Q E R S H => wpAny_isTrue_value (h.run A kk fk tmp s _ E R S fun v s1 S1 => hp.run A kk fk env ρ tmp v s1 Q E R S1 H) (he _)
theorem Ts.not {e : Expr} {pos : Pos} {b : Bool} (h : Ts C k env ρ e b) : Ts C k env ρ (.UnaryOp .Not e pos) (!b) :=
 .mk fun A kk fk tmp s Q E R S H => wpAny_isTrue_Not (h.run A kk fk tmp s _ E R S fun s1 S1 => H s1 S1)
theorem Ts.compare1 {l r : Expr} {op : CmpOp} {pos : Pos} {a b : PV} {x : PV} {t : Bool} (h1 : Ev C k env ρ l (.fr a)) (h2 : Ev C k env ρ r (.fr b)) (h : P2 C k (compareOp op) a b (.fr x)) (hp : Pt C k x t)
 (hm : behindInMarks op r = false := by with_unfolding_all rfl) : Ts C k env ρ (.Compare l [op] [r] pos) t := .mk fun A kk fk tmp s Q E R S H =>
 wpAny_isTrue_Compare1 (h1.run A kk fk tmp s _ E R S fun va s1 S1 => h2.run A kk fk _ s1 _ E R S1 fun vb s2 S2 => h.run A kk fk env ρ tmp va vb s2 _ E R S2 fun v s3 S3 => hp.run A kk fk env ρ tmp v s3 Q E R S3 H) hm
structure TsL (C : Cx) (k : Nat) (env : Env) (ρ : Rho) (op : BoolOp) (es : List Expr) (b : Bool) : Prop where
 run : ∀ (A : Around) (kk fk : PH) (tmp : List (Loc × LV)) (s : Shared) (Q : Bool → Shared → Prop) (E : Value → Shared → Prop), Rm A k → Sim C kk fk env ρ tmp s → (∀ s', Sim C kk fk env ρ tmp s' → Q b s') → wpAny (model C.prog C.w) A (allTrue op es env) Q E s
theorem TsL.andNil : TsL C k env ρ .And [] true := .mk fun A kk fk tmp s Q E R S H => wpAny_allTrue_And_nil (H s S)
theorem TsL.orNil : TsL C k env ρ .Or [] false := .mk fun A kk fk tmp s Q E R S H => wpAny_allTrue_Or_nil (H s S)
theorem TsL.and {e : Expr} {es : List Expr} {b b' : Bool} (h : Ts C k env ρ e b) (h' : b = true → TsL C k env ρ .And es b') : TsL C k env ρ .And (e :: es) (b && b') := .mk fun A kk fk tmp s Q E R S H =>
 wpAny_allTrue_And_cons (h.run A kk fk tmp s _ E R S fun s1 S1 => by
  cases b with
  | false => exact H s1 S1
  | true => exact (h' rfl).run A kk fk tmp s1 Q E R S1 H)
theorem TsL.or {e : Expr} {es : List Expr} {b b' : Bool} (h : Ts C k env ρ e b) (h' : b = false → TsL C k env ρ .Or es b') : TsL C k env ρ .Or (e :: es) (b || b') := .mk fun A kk fk tmp s Q E R S H =>
 wpAny_allTrue_Or_cons (h.run A kk fk tmp s _ E R S fun s1 S1 => by
  cases b with
  | true => exact H s1 S1
  | false => exact (h' rfl).run A kk fk tmp s1 Q E R S1 H)
theorem Ts.boolOp {op : BoolOp} {es : List Expr} {pos : Pos} {b : Bool} (h : TsL C k env ρ op es b) : Ts C k env ρ (.BoolOp op es pos) b := .mk fun A kk fk tmp s Q E R S H =>
 wpAny_isTrue_BoolOp (h.run A kk fk tmp s Q E R S H)
theorem Ex.ite {t : Expr} {body orelse : List Stmt} {pos : Pos} {b : Bool} {o : Out} (h : Ts C k env ρ t b) (h1 : b = true → Exs C k env ρ body o ρ') (h2 : b = false → Exs C k env ρ orelse o ρ') :
 Ex C k env ρ (.If t body orelse pos) o ρ' := .mk fun A kk fk tmp s Q E R W S H =>
 wpAny_If (h.run A kk fk tmp s _ E R S fun s1 S1 => by
  cases b with
  | true => exact (h1 rfl).run A kk fk tmp s1 Q E R W S1 H
  | false => exact (h2 rfl).run A kk fk tmp s1 Q E R W S1 H)
theorem Ev.ifExp {t body orelse : Expr} {pos : Pos} {b : Bool} {l : Loc} (h : Ts C k env ρ t b) (h1 : b = true → Ev C k env ρ body l) (h2 : b = false → Ev C k env ρ orelse l) :
 Ev C k env ρ (.IfExp t body orelse pos) l := .mk fun A kk fk tmp s Q E R S H =>
 wpAny_IfExp (h.run A kk fk tmp s _ E R S fun s1 S1 => by
  cases b with
  | true => exact (h1 rfl).run A kk fk tmp s1 Q E R S1 H
  | false => exact (h2 rfl).run A kk fk tmp s1 Q E R S1 H)
structure PN (C : Cx) (k : Nat) (f : Value) (ps : List PV) (l : Loc) : Prop where
 run : ∀ (A : Around) (kk fk : PH) (env : Env) (ρ : Rho) (tmp : List (Loc × LV)) (vs : List Value) (s : Shared) (Q : Value → Shared → Prop) (E : Value → Shared → Prop), Rm A k → Sim C kk fk env ρ ((.many ps, .many vs) :: tmp) s → (∀ v s', Sim C kk fk env ρ ((l, .one v) :: tmp) s' → Q v s') → wpAny (model C.prog C.w) A (call f vs) Q E s
theorem Ev.callB {f : Expr} {e : Expr} {es : List Expr} {pos : Pos} {id : String} {ps : List PV} {l : Loc} (hf : Ev C k env ρ f (.fr (.con (.builtin id)))) (ha : EvL C k env ρ (e :: es) ps) (h : PN C k (.builtin id) ps l)
 (hc : eval (.Call f (e :: es) [] pos) env = (do callWith pos (← eval f env) [] (backTo pos (starEach (e :: es) env)) (backToKw pos (keywordEach [] env))) := by rfl)
 (he : starEach (e :: es) env = (false, eval e env) :: starEach es env := by rfl) (hplain : (backTo pos (starEach es env)).any (·.1) = false := by rfl) :
 Ev C k env ρ (.Call f (e :: es) [] pos) l := .mk fun A kk fk tmp s Q E R S H =>
 Call_ (hf.run A kk fk tmp s _ E R S fun vf s1 S1 => by
  refine x12 S1.top fun kp hr _ S1' => ?_
  obtain rfl := hr.con_inv
  exact callWith_builtin1 (ha.run pos A kk fk tmp s1 _ E R S1' fun vs s2 S2 => h.run A kk fk env ρ tmp vs s2 Q E R S2 H) he hplain) hc
theorem Ev.callF {f : Expr} {e : Expr} {es : List Expr} {pos : Pos} {a : Addr} {o : Obj} {fd : FuncData} {ps : List PV} {l : Loc} (hf : Ev C k env ρ f (.fr (.con (.ref a)))) (ho : C.h₀.get? a = some o) (hd : o.data = .func fd)
 (ha : EvL C k env ρ (e :: es) ps) (h : PN C k (.ref a) ps l)
 (hc : eval (.Call f (e :: es) [] pos) env = (do callWith pos (← eval f env) [] (backTo pos (starEach (e :: es) env)) (backToKw pos (keywordEach [] env))) := by rfl)
 (he : starEach (e :: es) env = (false, eval e env) :: starEach es env := by rfl) :
 Ev C k env ρ (.Call f (e :: es) [] pos) l := .mk fun A kk fk tmp s Q E R S H =>
 Call_ (hf.run A kk fk tmp s _ E R S fun vf s1 S1 => by
  refine x12 S1.top fun kp hr _ S1' => ?_
  obtain rfl := hr.con_inv
  exact callWith_def hd (ha.run pos A kk fk tmp s1 _ E R S1' fun vs s2 S2 => ⟨by refine x40 S2 fun kp m own tow D => ?_; clear S2; exact D.kept _ _ (D.le _ _ (D.base _ _ ho)), h.run A kk fk env ρ tmp vs s2 Q E R S2 H⟩) he) hc
noncomputable def bindR : List (Str × PV) → Rho → Rho
 | [], ρ => ρ
 | (n, p) :: r, ρ => bindR r (upd ρ n (.fr p))
theorem bindR_ok {kp : PH} (kindOf : Str → Option NameKind) : ∀ (ns : List Str) (ps : List PV) (vs : List Value) (m cm : Str → Option Value) (ρ : Rho), Rps kp ps vs → ns.length = ps.length →
 (∀ x ∈ ns, kindOf x = some .local ∨ kindOf x = some .cell) →
 (∀ x l, ρ x = some l → ∃ p v, l = .fr p ∧ Rp kp p v ∧ ((kindOf x = some .local ∧ m x = some v) ∨ (kindOf x = some .cell ∧ cm x = some v))) →
 ∀ x l, bindR (ns.zip ps) ρ x = some l → ∃ p v, l = .fr p ∧ Rp kp p v ∧ ((kindOf x = some .local ∧ bindL kindOf (ns.zip vs) m x = some v) ∨ (kindOf x = some .cell ∧ bindC kindOf (ns.zip vs) cm x = some v))
 := by
 intro ns ps vs m cm ρ r
 induction ns generalizing ps vs m cm ρ with
 | nil => exact fun _ _ h x l e => h x l e
 | cons n ns ih =>
  intro hl hk h x l e
  cases ps with
  | nil => cases hl
  | cons p ps => ?_
  refine x22 r.cons_inv fun v vs z1 hp hs => ?_; subst z1
  simp only [List.zip_cons_cons, bindR, bindL, bindC] at e ⊢
  refine ih _ _ _ _ _ hs (Nat.succ.inj hl) (fun y hy => hk y (List.mem_cons_of_mem _ hy)) (fun y l' e' => ?_) x l e
  unfold upd at e'
  have hne : ¬ (some NameKind.cell = some NameKind.local) := by decide
  by_cases hy : y = n
  · subst hy
    simp only [if_true, Option.some.injEq] at e'
    subst e'
    rcases hk y List.mem_cons_self with hkl | hkc
    · exact ⟨p, v, rfl, hp, .inl ⟨hkl, by simp [hkl]⟩⟩
    · exact ⟨p, v, rfl, hp, .inr ⟨hkc, by simp [hkc, hne]⟩⟩
  · simp only [if_neg hy] at e'
    refine x22 (h y l' e') fun p' v' r1 r2 r3 => ?_
    refine ⟨p', v', r1, r2, r3.imp (fun ab => ⟨ab.1, ?_⟩) (fun ab => ⟨ab.1, ?_⟩)⟩
    · have b := ab.2
      split <;> simp [hy, b]
    · have b := ab.2
      split <;> simp [hy, b]
theorem SimD.up {kp kp' : PH} {m : Str → Option Value} {own : Str → List Addr} {tow : List (List Addr)} (D : SimD C kk fk env ρ tmp s kp m own tow) (hle : PH.le kp kp') (hk : ∀ a o, kp' a = some o → s.heap.get? a = some o)
 (hold : ∀ a, (env.locals = a ∨ fk a ≠ none ∨ ((∃ x, a ∈ own x) ∨ a ∈ tow.flatten) ∨ (∃ x, env.cells.lookup x = some a ∧ kp a = none)) → kp' a = none) : SimD C kk fk env ρ tmp s kp' m own tow :=
 { D with
  le := fun a o e => hle _ _ (D.le a o e)
  kept := hk
  kf := fun a o e => hold a (.inr (.inl (by rw [e]; simp)))
  nl := hold _ (.inl rfl)
  vars := fun x l e => let ⟨v, a, b⟩ := D.vars x l e; ⟨v, a, b.mono hle⟩
  tmps := D.tmps.mono hle
  free := fun a h => ⟨hold a (.inr (.inr (.inl h))), (D.free a h).2⟩
  wcell := ⟨fun x c e hw => hold c (.inr (.inr (.inr ⟨x, e, D.wcell.1 x c e hw⟩))), D.wcell.2⟩ }
noncomputable def besides (kp : PH) (h : Heap) : PH := fun a => match kp a with | none => h.get? a | some _ => none
theorem SimD.back {kp : PH} {m : Str → Option Value} {own : Str → List Addr} {tow : List (List Addr)} (D : SimD C kk fk env ρ tmp s kp m own tow) {env' : Env} {ρ' : Rho} {l : Loc} {v : Value} {s' : Shared}
 (S' : Sim C kp (besides kp s.heap) env' ρ' [(l, .one v)] s') : Sim C kk fk env ρ ((l, .one v) :: tmp) s' := by
 refine x40 S' fun kp' m' own' tow' D' => ?_; clear S'
 have keeps : ∀ b o, s.heap.get? b = some o → s'.heap.get? b = some o := fun b o e => by
  cases hb : kp b with
  | some o' => have := D.kept b o' hb; rw [e] at this; obtain rfl := si this; exact D'.kept _ _ (D'.le _ _ hb)
  | none => exact D'.fkept b o (by simp [besides, hb, e])
 have hfree : ∀ a o, s.heap.get? a = some o → kp a = none → kp' a = none := fun a o e h => D'.kf a o (by simp [besides, h, e])
 obtain ⟨h', tk, es⟩ : ∃ h tk, s' = { s with heap := h, toks := tk } := by
  obtain ⟨h1, t1, e1⟩ := D.rest
  refine x20 D'.rest fun h2 t2 e2 => ?_
  exact ⟨h2, t2, by rw [e1, e2]⟩
 subst es
 have G := (D.grow (h' := h') (tk := tk) keeps)
 have live : ∀ a, (env.locals = a ∨ fk a ≠ none ∨ ((∃ x, a ∈ own x) ∨ a ∈ tow.flatten) ∨ (∃ x, env.cells.lookup x = some a ∧ kp a = none)) → (∃ o, s.heap.get? a = some o) ∧ kp a = none := by
  rintro a (rfl | h | h | ⟨x, h1, h2⟩)
  · refine x31 D.ns fun o es n ho _ => ?_
    exact ⟨⟨o, ho⟩, D.nl⟩
  · cases e : fk a with
    | none => exact absurd e h
    | some o => exact ⟨⟨o, D.fkept a o e⟩, D.kf a o e⟩
  · exact ⟨D.live h, (D.free a h).1⟩
  · obtain ⟨⟨w, o, ho, _⟩, _⟩ := D.cells x a h1
    exact ⟨⟨o, ho⟩, h2⟩
 have U := G.up D'.le D'.kept fun a h => by
  obtain ⟨⟨o, ho⟩, hk⟩ := live a h
  exact hfree a o ho hk
 refine x22 D'.tmps.inv fun ow tow1 z1 r1 r2 => ?_; subst z1
 have owNew : ∀ a ∈ ow, s.heap.get? a = none ∧ kp' a = none := fun a ha => by
  refine x03 (D'.free a (.inr (by rw [List.flatten_cons]; exact List.mem_append_left _ ha))) fun q1 q2 _ _ => ?_
  refine ⟨?_, q1⟩
  cases e : s.heap.get? a with
  | none => rfl
  | some o =>
   have hk : kp a = none := by
    cases e2 : kp a with
    | none => rfl
    | some o' => rw [D'.le a o' e2] at q1; cases q1
   simp [besides, hk, e] at q2
 have off : ∀ a ∈ ow, ∀ b, (env.locals = b ∨ fk b ≠ none ∨ ((∃ x, b ∈ own x) ∨ b ∈ tow.flatten) ∨ (∃ x, env.cells.lookup x = some b ∧ kp b = none)) → b ≠ a := fun a ha b hb q => by
  subst q
  obtain ⟨⟨o, ho⟩, -⟩ := live b hb
  rw [(owNew b ha).1] at ho; cases ho
 refine ⟨kp', m, own, ow :: tow, { U with
  tmps := .cons r1 U.tmps
  free := fun a h => ?_
  apartT := fun x a h e => ?_
  towN := ?_ }⟩
 · by_cases ha : a ∈ ow
   · refine ⟨(owNew a ha).2, ?_, fun q => off a ha _ (.inl rfl) q.symm, fun y c e q => ?_⟩
     · cases e : fk a with
       | none => rfl
       | some o => exact absurd rfl (off a ha a (.inr (.inl (by rw [e]; simp))))
     · subst q
       obtain ⟨⟨w, o, ho, _⟩, _⟩ := D.cells y c e
       rw [(owNew c ha).1] at ho; cases ho
   · exact U.free a (h.imp id fun e => by rw [List.flatten_cons, List.mem_append] at e; exact e.resolve_left ha)
 · rw [List.flatten_cons, List.mem_append] at e
   rcases e with e | e
   · exact off a e a (.inr (.inr (.inl (.inl ⟨x, h⟩)))) rfl
   · exact U.apartT x a h e
 · rw [List.flatten_cons, List.nodup_append]
   have h1 := D'.towN
   rw [List.flatten_cons, List.nodup_append] at h1
   exact ⟨h1.1, U.towN, fun a ha b hb q => off a ha b (.inr (.inr (.inl (.inr hb)))) q.symm⟩
theorem SimD.enter {kp : PH} {m : Str → Option Value} {own : Str → List Addr} {tow : List (List Addr)} {ps : List PV} {vs : List Value} (D : SimD C kk fk env ρ ((.many ps, .many vs) :: tmp) s kp m own tow)
 {fd : FuncData} {a : Addr} {names : List Str} {s₁ : Shared} (hn : names.length = ps.length) (hkind : fd.scope.kind = .function) (hg : fd.globals = mainGlobals) (hb : fd.builtins = builtinsNs)
 (hk : ∀ x ∈ names, fd.scope.names.lookup x = some .local ∨ fd.scope.names.lookup x = some .cell)
 (hcl : ∀ x ∈ names, fd.scope.names.lookup x = some .cell → ((callEnvC fd s.heap.objs.size a).cells.lookup x).isSome = true)
 (x : InCallC s (callEnvC fd s.heap.objs.size a).locals (bindL (callEnvC fd s.heap.objs.size a).kindOf (names.zip vs) fun _ => none) (callEnvC fd s.heap.objs.size a).cells
  (bindC (callEnvC fd s.heap.objs.size a).kindOf (names.zip vs) fun _ => none) s₁) :
 Sim C kp (besides kp s.heap) (callEnvC fd s.heap.objs.size a) (bindR (names.zip ps) fun _ => none) [] s₁ := by
 refine x12 D.topMany fun tow' _ hps D1 => ?_
 have keep : ∀ b o, s.heap.get? b = some o → s₁.heap.get? b = some o := x.toInCall.keep
 have hloc : (callEnvC fd s.heap.objs.size a).locals = s.heap.objs.size := rfl
 have dead : ∀ b, s.heap.objs.size ≤ b → s.heap.get? b = none := fun b hb => by
  cases e : s.heap.get? b with
  | none => rfl
  | some o => exact absurd (Heap.lt_size e) (Nat.not_lt.mpr hb)
 have kpd : ∀ b, s.heap.objs.size ≤ b → kp b = none := fun b hb => by
  cases e : kp b with
  | none => rfl
  | some o => have := D.kept b o e; rw [dead b hb] at this; exact no this
 have fkd : ∀ b, s.heap.objs.size ≤ b → besides kp s.heap b = none := fun b hb => by simp [besides, kpd b hb, dead b hb]
 have hv := bindR_ok (kp := kp) (callEnvC fd s.heap.objs.size a).kindOf names ps vs (fun _ => none) (fun _ => none) (fun _ => none) hps hn hk (fun x l e => by exact no e)
 refine ⟨kp, _, fun _ => [], [], {
  rest := by refine x20 D.rest fun h t e => ?_; refine x20 x.toInCall.same fun h2 t2 e2 => ?_; exact ⟨h2, t2, by rw [e2, e]⟩
  base := fun b o e => D.le _ _ (D.base b o e)
  le := fun _ _ e => e
  kept := fun b o e => keep _ _ (D.kept b o e)
  fkept := fun b o e => keep _ _ (by unfold besides at e; split at e <;> first | exact e | exact no e)
  kf := fun b o e => by unfold besides at e; split at e <;> first | assumption | exact no e
  ns := x.toInCall.ns
  nl := kpd _ (Nat.le_refl _)
  vars := fun y l e => ?_
  noVar := fun _ _ => rfl
  tmps := .nil
  free := fun b h => by simp at h
  apart := fun _ _ _ h => by simp at h
  apartT := fun _ _ h => by simp at h
  towN := by simp
  cells := fun y c e => ⟨⟨_, x.cell y c e⟩, Nat.ne_of_gt (x.above y c (mem_of_lookup e))⟩
  wcell := ⟨fun y c e _ => ?_, fun y z c e1 _ e2 => name_of_addr x.apart (mem_of_lookup e1) (mem_of_lookup e2)⟩
  globals := hg
  builtins := hb
  kind := hkind }⟩
 · refine x22 (hv y l e) fun p v z1 hp hv => ?_; subst z1
   refine ⟨v, ?_, .fr hp⟩
   rcases hv with ⟨h1, h2⟩ | ⟨h1, h2⟩
   · exact .inl ⟨h1, h2⟩
   · refine .inr ⟨h1, ?_⟩
     have hy : y ∈ names := by
      apply Classical.byContradiction
      intro hy
      have : ∀ (ns : List Str) (vs : List Value) (cm : Str → Option Value), y ∉ ns → cm y = none → bindC (callEnvC fd s.heap.objs.size a).kindOf (ns.zip vs) cm y = none := by
       intro ns
       induction ns with
       | nil => intro vs cm _ h; simpa [bindC] using h
       | cons n ns ih =>
        intro vs cm hy h
        cases vs with
        | nil => simpa [bindC] using h
        | cons v vs =>
         simp only [List.zip_cons_cons, bindC]
         refine ih vs _ (fun hm => hy (List.mem_cons_of_mem _ hm)) ?_
         have : y ≠ n := fun q => hy (q ▸ List.mem_cons_self)
         split <;> simp [h, this]
      rw [this names vs _ hy rfl] at h2
      cases h2
     obtain ⟨c, hc⟩ := Option.isSome_iff_exists.mp (hcl y hy h1)
     exact ⟨c, hc, h2 ▸ x.cell y c hc⟩
 · have : s.heap.objs.size ≤ c := Nat.le_of_lt (x.above y c (mem_of_lookup e))
   exact kpd c this
end
section
variable {C : Cx} {k : Nat} {kk fk : PH} {env : Env} {ρ ρ' : Rho} {tmp : List (Loc × LV)} {s : Shared}
theorem SimD.swap {kp : PH} {m : Str → Option Value} {own : Str → List Addr} {tow' : List (List Addr)} {l l' : Loc} {v v' : LV} {ow : List Addr} (D : SimD C kk fk env ρ ((l, v) :: tmp) s kp m own (ow :: tow')) {h' : Heap} {tk : Nat}
 (hk : ∀ b o, b ∉ ow → s.heap.get? b = some o → h'.get? b = some o) (hr : RpL C kp h' l' v' ow) : SimD C kk fk env ρ ((l', v') :: tmp) { s with heap := h', toks := tk } kp m own (ow :: tow') := by
 have inow : ∀ a ∈ ow, a ∈ (ow :: tow').flatten := fun a h => by rw [List.flatten_cons]; exact List.mem_append_left _ h
 have hkp : ∀ b o, kp b = some o → h'.get? b = some o := fun b o e => hk b o (fun h => by rw [(D.free b (.inr (inow b h))).1] at e; cases e) (D.kept b o e)
 have htn := D.towN
 rw [List.flatten_cons] at htn
 refine x02 (List.nodup_append.mp htn) fun n1 n2 n3 => ?_
 obtain ⟨r1, r2⟩ := D.tmps.inv2
 exact { D with
  rest := by refine x20 D.rest fun h t e => ?_; exact ⟨h', tk, by rw [e]⟩
  kept := hkp
  fkept := fun b o e => hk b o (fun h => by rw [(D.free b (.inr (inow b h))).2.1] at e; cases e) (D.fkept b o e)
  ns := D.ns.at' fun o e => hk _ o (fun h => (D.free _ (.inr (inow _ h))).2.2.1 rfl) e
  vars := fun x l e => by
   refine x11 (D.vars x l e) fun w p q => ?_
   refine ⟨w, p.imp id fun ⟨a, c, b, o, e1, e2⟩ => ⟨a, c, b, o, hk c o (fun h => (D.free c (.inr (inow c h))).2.2.2 x c b rfl) e1, e2⟩, q.keepsOn fun b o hb e => ?_⟩
   rcases hb with hb | ⟨o', hb⟩
   · exact hk b o (fun h => D.apartT x b hb (inow b h)) e
   · have := hkp b o' hb
     have e2 := D.kept b o' hb
     rw [e] at e2; obtain rfl := si e2; exact this
  tmps := .cons hr (r2.keepsOn fun b o hb e => by
   rcases hb with hb | ⟨o', hb⟩
   · exact hk b o (fun h => n3 b h b hb rfl) e
   · have := hkp b o' hb
     have e2 := D.kept b o' hb
     rw [e] at e2; obtain rfl := si e2; exact this)
  cells := fun y c e => by
   obtain ⟨⟨w, o, e1, e2⟩, hne⟩ := D.cells y c e
   exact ⟨⟨w, o, hk c o (fun h => (D.free c (.inr (inow c h))).2.2.2 y c e rfl) e1, e2⟩, hne⟩ }
theorem SimD.drop {kp : PH} {m : Str → Option Value} {own : Str → List Addr} {tow' : List (List Addr)} {l : Loc} {v : LV} {ow : List Addr} (D : SimD C kk fk env ρ ((l, v) :: tmp) s kp m own (ow :: tow')) {h' : Heap} {tk : Nat}
 (hk : ∀ b o, b ∉ ow → s.heap.get? b = some o → h'.get? b = some o) : SimD C kk fk env ρ tmp { s with heap := h', toks := tk } kp m own tow' := by
 have inow : ∀ a ∈ ow, a ∈ (ow :: tow').flatten := fun a h => by rw [List.flatten_cons]; exact List.mem_append_left _ h
 have hkp : ∀ b o, kp b = some o → h'.get? b = some o := fun b o e => hk b o (fun h => by rw [(D.free b (.inr (inow b h))).1] at e; cases e) (D.kept b o e)
 have htn := D.towN
 rw [List.flatten_cons] at htn
 refine x02 (List.nodup_append.mp htn) fun n1 n2 n3 => ?_
 obtain ⟨r1, r2⟩ := D.tmps.inv2
 exact { D with
  rest := by refine x20 D.rest fun h t e => ?_; exact ⟨h', tk, by rw [e]⟩
  kept := hkp
  fkept := fun b o e => hk b o (fun h => by rw [(D.free b (.inr (inow b h))).2.1] at e; cases e) (D.fkept b o e)
  ns := D.ns.at' fun o e => hk _ o (fun h => (D.free _ (.inr (inow _ h))).2.2.1 rfl) e
  vars := fun x l e => by
   refine x11 (D.vars x l e) fun w p q => ?_
   refine ⟨w, p.imp id fun ⟨a, c, b, o, e1, e2⟩ => ⟨a, c, b, o, hk c o (fun h => (D.free c (.inr (inow c h))).2.2.2 x c b rfl) e1, e2⟩, q.keepsOn fun b o hb e => ?_⟩
   rcases hb with hb | ⟨o', hb⟩
   · exact hk b o (fun h => D.apartT x b hb (inow b h)) e
   · have := hkp b o' hb
     have e2 := D.kept b o' hb
     rw [e] at e2; obtain rfl := si e2; exact this
  tmps := r2.keepsOn fun b o hb e => by
   rcases hb with hb | ⟨o', hb⟩
   · exact hk b o (fun h => n3 b h b hb rfl) e
   · have := hkp b o' hb
     have e2 := D.kept b o' hb
     rw [e] at e2; obtain rfl := si e2; exact this
  free := fun a h => D.free a (h.imp id fun e => by rw [List.flatten_cons]; exact List.mem_append_right _ e)
  apartT := fun x a h e => D.apartT x a h (by rw [List.flatten_cons]; exact List.mem_append_right _ e)
  towN := n2
  cells := fun y c e => by
   obtain ⟨⟨w, o, e1, e2⟩, hne⟩ := D.cells y c e
   exact ⟨⟨w, o, hk c o (fun h => (D.free c (.inr (inow c h))).2.2.2 y c e rfl) e1, e2⟩, hne⟩ }
theorem Sim.next {A : Around} {p : PV} {xs : List PV} {it : Value} {Q : Option Value → Shared → Prop} {E : Value → Shared → Prop} (hA : A.handled = none) (S : Sim C kk fk env ρ ((.itr (p :: xs), .one it) :: tmp) s)
 (H : ∀ v s', Sim C kk fk env ρ ((.fr p, .one v) :: (.itr xs, .one it) :: tmp) s' → Q (some v) s') : wpAny (model C.prog C.w) A (pyNext it) Q E s := by
 refine x40 S fun kp m own tow D => ?_; clear S
 refine x22 D.tmps.inv fun _ _ z1 r1 r2 => ?_; subst z1
 cases r1 with
 | @itr _ I fp wr n P St i hW hst hlen hval hfp hlive hnd hcls =>
 simp only [List.length_cons] at hlen
 refine (hW A hA).item i s Q E (by omega) hst fun v h' tk hP hst' hk => ?_
 have hp : Rp kp p v := hval 0 v p (by simpa using hP) (by simp)
 refine H v _ ⟨kp, m, own, _, (D.swap (l' := .itr xs) (v' := .one (.ref I)) hk (.itr (i := i + 1) hW hst' (by omega) (fun j v' p' hPj hj => hval (j + 1) v' p' (by rw [show i + (j + 1) = i + 1 + j by omega]; exact hPj) (by simpa using hj)) hfp hlive hnd hcls)).pushFr hp⟩
theorem Sim.nextEnd {A : Around} {it : Value} {Q : Option Value → Shared → Prop} {E : Value → Shared → Prop} (hA : A.handled = none) (S : Sim C kk fk env ρ ((.itr [], .one it) :: tmp) s)
 (H : ∀ s', Sim C kk fk env ρ tmp s' → Q none s') : wpAny (model C.prog C.w) A (pyNext it) Q E s := by
 refine x40 S fun kp m own tow D => ?_; clear S
 refine x22 D.tmps.inv fun _ _ z1 r1 r2 => ?_; subst z1
 cases r1 with
 | @itr _ I fp wr n P St i hW hst hlen hval hfp hlive hnd hcls =>
 simp only [List.length_nil, Nat.add_zero] at hlen
 subst hlen
 exact (hW A hA).done s Q E hst fun h' tk hk => H _ ⟨kp, m, own, _, D.drop hk⟩
structure Iter (C : Cx) (k : Nat) (p : PV) (xs : List PV) : Prop where
 run : ∀ (A : Around) (kk fk : PH) (env : Env) (ρ : Rho) (tmp : List (Loc × LV)) (v : Value) (s : Shared) (Q : Value → Shared → Prop) (E : Value → Shared → Prop), Rm A k → Sim C kk fk env ρ ((.fr p, .one v) :: tmp) s → (∀ it s', Sim C kk fk env ρ ((.itr xs, .one it) :: tmp) s' → Q it s') → wpAny (model C.prog C.w) A (pyIter v) Q E s
theorem SimD.pushNew {kp : PH} {m : Str → Option Value} {own : Str → List Addr} {tow : List (List Addr)} (D : SimD C kk fk env ρ tmp s kp m own tow) (o : Obj) {l : Loc} {v : LV} (tk : Nat)
 (hr : RpL C kp (s.heap.push o) l v [s.heap.objs.size]) : SimD C kk fk env ρ ((l, v) :: tmp) { s with heap := s.heap.push o, toks := tk } kp m own ([s.heap.objs.size] :: tow) := by
 have nw : ∀ (f : PH), (∀ a o, f a = some o → s.heap.get? a = some o) → f s.heap.objs.size = none := fun f hf => by
  cases e : f s.heap.objs.size with
  | none => rfl
  | some o' => exact absurd (Heap.lt_size (hf _ _ e)) (Nat.lt_irrefl _)
 have hnew : ∀ a, ((∃ x, a ∈ own x) ∨ a ∈ tow.flatten) → a ≠ s.heap.objs.size := fun a h e => by
  obtain ⟨o1, e1⟩ := D.live h
  subst e
  exact absurd (Heap.lt_size e1) (Nat.lt_irrefl _)
 have G := D.grow (h' := s.heap.push o) (tk := tk) fun b o' e => Heap.get?_push_of_some _ e
 refine { G with
  tmps := .cons hr G.tmps
  free := fun a h => ?_
  apartT := fun x a h e => ?_
  towN := ?_ }
 · by_cases q : a = s.heap.objs.size
   · subst q
     exact ⟨nw kp D.kept, nw fk D.fkept, (Nat.ne_of_lt D.ns.lt).symm, fun y c e => Nat.ne_of_lt (let ⟨⟨v, hc⟩, _⟩ := D.cells y c e; hc.lt)⟩
   · exact G.free a (h.imp id fun e => by simpa [q] using e)
 · simp only [List.flatten_cons, List.mem_append, List.mem_singleton] at e
   rcases e with e | e
   · exact hnew a (.inl ⟨x, h⟩) e
   · exact G.apartT x a h e
 · simp only [List.flatten_cons, List.singleton_append, List.nodup_cons]
   exact ⟨fun h => hnew _ (.inr h) rfl, G.towN⟩
theorem Iter.lst {xs : List PV} : Iter C k (.lst xs) xs := .mk fun A kk fk env ρ tmp v s Q E R S H => by
 refine x40 S fun kp m own tow D => ?_; clear S
 refine x12 D.top fun tow' _ hp D' => ?_
 refine x44 hp.lst_inv fun a o vs n z1 hk hc hd hr => ?_; subst z1
 have hl : s.heap.IsList a vs := ⟨o, D.kept _ _ hk, hc, n, hd⟩
 have hne : a ≠ s.heap.objs.size := Nat.ne_of_lt (Heap.lt_size (D.kept _ _ hk))
 refine wpAny_pyIter_list hl (H _ _ ⟨kp, m, own, _, D'.pushNew { cls := .type "list_iterator", data := .fields #[.ref a, .int 0 0] } s.toks
  (.itr (i := 0) (fun A hA => Walks.list hA s.heap.objs.size a hne vs) ⟨⟨_, Heap.get?_push_size _ rfl, rfl, rfl⟩, hl.push _⟩ ?_ ?_ ?_ ?_ (by simp) ?_)⟩)
 · have := hr.length; simp at this; omega
 · intro j v p hP hj
   obtain ⟨v', hv', hp'⟩ := hr.get hj
   have hP' : vs[j]? = some v := by simpa using hP
   rw [Array.getElem?_toList, hP'] at hv'
   cases hv'; exact hp'
 · intro b hb
   simp at hb
   rcases hb with rfl | rfl
   · exact .inl (by simp)
   · exact .inr ⟨o, hk⟩
 · rintro i h ⟨⟨o', e, _⟩, _⟩ b hb
   simp at hb; subst hb; exact ⟨o', e⟩
 · rintro i h ⟨⟨o', e, hc', hd'⟩, _⟩
   exact ⟨o', e, by unfold NoOwned; rw [hc', hd']; dsimp only; decide⟩
theorem Iter.str {x : Str} : Iter C k (.str x) (x.cps.toList.map fun c => .str ⟨#[c]⟩) := .mk fun A kk fk env ρ tmp v s Q E R S H => by
 refine x40 S fun kp m own tow D => ?_; clear S
 refine x12 D.top fun tow' _ hp D' => ?_
 obtain ⟨t, rfl⟩ := hp.str_inv
 have val : ∀ (j : Nat) (v : Value) (p : PV), SignAt x (0 + j) v → (x.cps.toList.map fun c => PV.str ⟨#[c]⟩)[j]? = some p → Rp kp p v := by
  intro j v p hP hj
  refine x21 hP fun c t' hc z1 => ?_; clear hP; subst z1
  simp only [List.getElem?_map, Array.getElem?_toList, Nat.zero_add] at hj hc
  rw [hc] at hj
  obtain rfl := si hj
  exact .str _ _
 cases ha : x.cps.all (· < 128)
 · refine wpAny_pyIter_wide ha (H _ _ ⟨kp, m, own, _, D'.pushNew { cls := .type "str_iterator", data := .fields #[.str x t, .int 0 0] } s.toks
    (.itr (i := 0) (fun A hA => Walks.strWide hA _ x t) ⟨_, Heap.get?_push_size _ rfl, rfl, rfl⟩ (by simp) val (fun b hb => .inl hb) ?_ (by simp) ?_)⟩)
   · rintro i h ⟨o', e, _⟩ b hb
     simp at hb; subst hb; exact ⟨o', e⟩
   · rintro i h ⟨o', e, hc', hd'⟩
     exact ⟨o', e, by unfold NoOwned; rw [hc', hd']; dsimp only; decide⟩
 · refine wpAny_pyIter_ascii ha (H _ _ ⟨kp, m, own, _, D'.pushNew { cls := .type "str_ascii_iterator", data := .fields #[.str x t, .int 0 0] } s.toks
    (.itr (i := 0) (fun A hA => Walks.strAscii hA _ x t) ⟨_, Heap.get?_push_size _ rfl, rfl, rfl⟩ (by simp) val (fun b hb => .inl hb) ?_ (by simp) ?_)⟩)
   · rintro i h ⟨o', e, _⟩ b hb
     simp at hb; subst hb; exact ⟨o', e⟩
   · rintro i h ⟨o', e, hc', hd'⟩
     exact ⟨o', e, by unfold NoOwned; rw [hc', hd']; dsimp only; decide⟩
structure As (C : Cx) (k : Nat) (env : Env) (ρ : Rho) (t : Expr) (p : PV) (ρ' : Rho) : Prop where
 run : ∀ (A : Around) (kk fk : PH) (tmp : List (Loc × LV)) (v : Value) (s : Shared) (Q : Unit → Shared → Prop) (E : Value → Shared → Prop), Rm A k → Wf fk env → Sim C kk fk env ρ ((.fr p, .one v) :: tmp) s → (∀ s', Sim C kk fk env ρ' tmp s' → Q () s') → wpAny (model C.prog C.w) A (assign t env v) Q E s
theorem As.name {x : Str} {pos : Pos} {p : PV} (hx : Stores env x) : As C k env ρ (.Name x pos) p (upd ρ x (.fr p)) := .mk fun A kk fk tmp v s Q E R W S H =>
 wpAny_assign_Name (S.store W hx fun s' S' => H s' S')
inductive Loop (C : Cx) (k : Nat) (env : Env) (t : Expr) (body : List Stmt) : List PV → Rho → Out → Rho → Prop
 | nil {ρ : Rho} : Loop C k env t body [] ρ .next ρ
 | next {p : PV} {xs : List PV} {ρ ρ1 ρ2 ρ3 : Rho} {o : Out} (ha : As C k env ρ t p ρ1) (hb : Exs C k env ρ1 body .next ρ2) (hr : Loop C k env t body xs ρ2 o ρ3) : Loop C k env t body (p :: xs) ρ o ρ3
 | cont {p : PV} {xs : List PV} {ρ ρ1 ρ2 ρ3 : Rho} {o : Out} (ha : As C k env ρ t p ρ1) (hb : Exs C k env ρ1 body .cont ρ2) (hr : Loop C k env t body xs ρ2 o ρ3) : Loop C k env t body (p :: xs) ρ o ρ3
 | brk {p : PV} {xs : List PV} {ρ ρ1 ρ2 : Rho} (ha : As C k env ρ t p ρ1) (hb : Exs C k env ρ1 body .brk ρ2) : Loop C k env t body (p :: xs) ρ .next ρ2
 | ret {p : PV} {xs : List PV} {ρ ρ1 ρ2 : Rho} {l : Loc} (ha : As C k env ρ t p ρ1) (hb : Exs C k env ρ1 body (.ret l) ρ2) : Loop C k env t body (p :: xs) ρ (.ret l) ρ2
theorem Sim.pop2 {l l2 : Loc} {v v2 : LV} (S : Sim C kk fk env ρ ((l, v) :: (l2, v2) :: tmp) s) : Sim C kk fk env ρ ((l, v) :: tmp) s := by
 refine x40 S fun kp m own tow D => ?_; clear S
 refine x22 D.tmps.inv fun o1 tow' z1 h1 h2 => ?_; subst z1
 cases h2 with
 | @cons _ _ o2 _ tow2 h3 h4 =>
 have htn := D.towN
 simp only [List.flatten_cons] at htn
 refine x02 (List.nodup_append.mp htn) fun n1 n2 n3 => ?_
 refine x02 (List.nodup_append.mp n2) fun n4 n5 n6 => ?_
 exact ⟨kp, m, own, o1 :: tow2, { D with
  tmps := .cons h1 h4
  free := fun a h => D.free a (h.imp id fun e => by simp only [List.flatten_cons, List.mem_append] at e ⊢; exact e.imp id .inr)
  apartT := fun x a h e => D.apartT x a h (by simp only [List.flatten_cons, List.mem_append] at e ⊢; exact e.imp id .inr)
  towN := by rw [List.flatten_cons]; exact List.nodup_append.mpr ⟨n1, n5, fun a ha b hb => n3 a ha b (List.mem_append_right _ hb)⟩ }⟩
end
section
variable {C : Cx} {k : Nat} {kk fk : PH} {env : Env} {ρ ρ' : Rho} {tmp : List (Loc × LV)} {s : Shared}
theorem SimD.backW {kp : PH} {m : Str → Option Value} {own : Str → List Addr} {tow : List (List Addr)} (D : SimD C kk fk env ρ tmp s kp m own tow) {env' : Env} {ρ' : Rho} {tm : List (Loc × LV)} {s' : Shared} {fi : PH} {wr : List Addr}
 (hwr : ∀ a ∈ wr, fk a = none ∧ kp a = none ∧ a ≠ env.locals ∧ (∀ y c, env.cells.lookup y = some c → c ≠ a) ∧ (∀ x, a ∉ own x) ∧ a ∉ tow.flatten)
 (hfi : ∀ a o, s.heap.get? a = some o → kp a = none → a ∉ wr → fi a = some o) (hnew : s.heap.get? env'.locals = none)
 (S' : Sim C kp fi env' ρ' tm s') : Sim C kk fk env ρ (tm ++ (.nsp, .one (.ref env'.locals)) :: tmp) s' := by
 refine x40 S' fun kp' m' own' tow' D' => ?_; clear S'
 have live : ∀ a, (env.locals = a ∨ fk a ≠ none ∨ ((∃ x, a ∈ own x) ∨ a ∈ tow.flatten) ∨ (∃ x, env.cells.lookup x = some a ∧ kp a = none)) → (∃ o, s.heap.get? a = some o) ∧ kp a = none ∧ a ∉ wr := by
  rintro a (rfl | h | h | ⟨x, h1, h2⟩)
  · refine x31 D.ns fun o es n ho _ => ?_
    exact ⟨⟨o, ho⟩, D.nl, fun hw => (hwr _ hw).2.2.1 rfl⟩
  · cases e : fk a with
    | none => exact absurd e h
    | some o => exact ⟨⟨o, D.fkept a o e⟩, D.kf a o e, fun hw => by rw [(hwr _ hw).1] at e; cases e⟩
  · refine ⟨D.live h, (D.free a h).1, fun hw => ?_⟩
    rcases h with ⟨x, hx⟩ | h
    · exact (hwr _ hw).2.2.2.2.1 x hx
    · exact (hwr _ hw).2.2.2.2.2 h
  · obtain ⟨⟨w, o, ho, _⟩, _⟩ := D.cells x a h1
    exact ⟨⟨o, ho⟩, h2, fun hw => (hwr _ hw).2.2.2.1 x a h1 rfl⟩
 have stays : ∀ a o, s.heap.get? a = some o → a ∉ wr → s'.heap.get? a = some o := fun a o e hw => by
  cases hb : kp a with
  | some o' => have := D.kept a o' hb; rw [e] at this; obtain rfl := si this; exact D'.kept _ _ (D'.le _ _ hb)
  | none => exact D'.fkept a o (hfi a o e hb hw)
 have hfree : ∀ a, (env.locals = a ∨ fk a ≠ none ∨ ((∃ x, a ∈ own x) ∨ a ∈ tow.flatten) ∨ (∃ x, env.cells.lookup x = some a ∧ kp a = none)) → kp' a = none := fun a h => by
  refine x02 (live a h) fun z1 hk hw => ?_; obtain ⟨o, ho⟩ := z1
  exact D'.kf a o (hfi a o ho hk hw)
 have lv : ∀ a, (env.locals = a ∨ fk a ≠ none ∨ ((∃ x, a ∈ own x) ∨ a ∈ tow.flatten) ∨ (∃ x, env.cells.lookup x = some a ∧ kp a = none)) → a ≠ env'.locals ∧ a ∉ tow'.flatten := fun a h => by
  refine x02 (live a h) fun z1 hk hw => ?_; obtain ⟨o, ho⟩ := z1
  refine ⟨fun q => by (subst q; rw [hnew] at ho; cases ho), fun q => ?_⟩
  have := (D'.free a (.inr q)).2.1
  rw [hfi a o ho hk hw] at this
  cases this
 have cellIn : ∀ y c, env.cells.lookup y = some c → s'.heap.get? c = s.heap.get? c ∧ c ≠ env'.locals ∧ c ∉ tow'.flatten := fun y c e => by
  obtain ⟨⟨w, o, ho, _⟩, _⟩ := D.cells y c e
  have hw : c ∉ wr := fun hw => (hwr _ hw).2.2.2.1 y c e rfl
  have hne : c ≠ env'.locals := fun q => by rw [q, hnew] at ho; cases ho
  refine ⟨(stays c o ho hw).trans ho.symm, hne, fun q => ?_⟩
  have hf := D'.free c (.inr q)
  cases hk : kp c with
  | none => have := hf.2.1; rw [hfi c o ho hk hw] at this; cases this
  | some o' => have := hf.1; rw [D'.le _ _ hk] at this; cases this
 have keepR : ∀ {l : Loc} {v : LV} {ow : List Addr}, RpL C kp s.heap l v ow → (∀ a ∈ ow, a ∉ wr) → RpL C kp' s'.heap l v ow := fun r h => (r.keepsOn fun b o hb e => by
  rcases hb with hb | ⟨o', hb⟩
  · exact stays b o e (h b hb)
  · have := D.kept b o' hb; rw [e] at this; obtain rfl := si this; exact D'.kept _ _ (D'.le _ _ hb)).mono D'.le
 have keepT : ∀ {t : List (Loc × LV)} {tw : List (List Addr)}, Tm C kp s.heap t tw → (∀ a ∈ tw.flatten, a ∉ wr) → Tm C kp' s'.heap t tw := fun r h => (r.keepsOn fun b o hb e => by
  rcases hb with hb | ⟨o', hb⟩
  · exact stays b o e (h b hb)
  · have := D.kept b o' hb; rw [e] at this; obtain rfl := si this; exact D'.kept _ _ (D'.le _ _ hb)).mono D'.le
 have app : ∀ {t1 t2 : List (Loc × LV)} {w1 w2 : List (List Addr)}, Tm C kp' s'.heap t1 w1 → Tm C kp' s'.heap t2 w2 → Tm C kp' s'.heap (t1 ++ t2) (w1 ++ w2) := by
  intro t1 t2 w1 w2 h1 h2
  induction h1 with
  | nil => exact h2
  | cons a _ ih => exact .cons a ih
 refine ⟨kp', m, own, tow' ++ [env'.locals] :: tow, {
  rest := by refine x20 D.rest fun h1 t1 e1 => ?_; refine x20 D'.rest fun h2 t2 e2 => ?_; exact ⟨h2, t2, e2⟩
  base := D.base
  le := fun a o e => D'.le a o (D.le a o e)
  kept := D'.kept
  fkept := fun a o e => by refine x02 (live a (.inr (.inl (by rw [e]; simp)))) fun z1 hk hw => ?_; obtain ⟨o', ho⟩ := z1; have := D.fkept a o e; exact stays a o this hw
  kf := fun a o e => hfree a (.inr (.inl (by rw [e]; simp)))
  ns := D.ns.at' fun o e => stays _ o e (live _ (.inl rfl)).2.2
  nl := hfree _ (.inl rfl)
  vars := fun x l e => by
   refine x11 (D.vars x l e) fun v a b => ?_
   refine ⟨v, a.imp id fun ⟨a, c, b, o, e1, e2⟩ => ⟨a, c, b, o, (cellIn x c b).1.trans e1, e2⟩, keepR b fun a ha => (live a (.inr (.inr (.inl (.inl ⟨x, ha⟩))))).2.2⟩
  noVar := D.noVar
  tmps := app D'.tmps (.cons (.nsp D'.ns) (keepT D.tmps fun a ha => (live a (.inr (.inr (.inl (.inr ha))))).2.2))
  free := fun a h => ?_
  apart := D.apart
  apartT := fun x a h e => ?_
  towN := ?_
  cells := fun y c e => by obtain ⟨⟨w, o, e1, e2⟩, hne⟩ := D.cells y c e; exact ⟨⟨w, o, (cellIn y c e).1.trans e1, e2⟩, hne⟩
  wcell := ⟨fun x c e hw => hfree c (.inr (.inr (.inr ⟨x, e, D.wcell.1 x c e hw⟩))), D.wcell.2⟩
  globals := D.globals
  builtins := D.builtins
  kind := D.kind }⟩
 · simp only [List.flatten_append, List.flatten_cons, List.mem_append, List.mem_singleton] at h
   have old : ((∃ x, a ∈ own x) ∨ a ∈ tow.flatten) → _ := fun h => (⟨hfree a (.inr (.inr (.inl h))), (D.free a h).2⟩ : kp' a = none ∧ fk a = none ∧ a ≠ env.locals ∧ ∀ y c, env.cells.lookup y = some c → c ≠ a)
   have new : (a = env'.locals ∨ a ∈ tow'.flatten) → kp' a = none → (kp' a = none ∧ fk a = none ∧ a ≠ env.locals ∧ ∀ y c, env.cells.lookup y = some c → c ≠ a) := fun h hk => by
    have off : ∀ b, (env.locals = b ∨ fk b ≠ none ∨ ((∃ x, b ∈ own x) ∨ b ∈ tow.flatten) ∨ (∃ x, env.cells.lookup x = some b ∧ kp b = none)) → b ≠ a := fun b hb q => by
     subst q; rcases h with h | h
     · exact (lv _ hb).1 h
     · exact (lv _ hb).2 h
    refine ⟨hk, ?_, fun q => off _ (.inl rfl) q.symm, fun y c e q => ?_⟩
    · cases e : fk a with
      | none => rfl
      | some o => exact absurd rfl (off a (.inr (.inl (by rw [e]; simp))))
    · subst q
      rcases h with h | h
      · exact (cellIn y c e).2.1 h
      · exact (cellIn y c e).2.2 h
   rcases h with h | h | h | h
   · exact old (.inl h)
   · exact new (.inr h) (D'.free a (.inr h)).1
   · exact new (.inl h) (h ▸ D'.nl)
   · exact old (.inr h)
 · simp only [List.flatten_append, List.flatten_cons, List.mem_append, List.mem_singleton] at e
   rcases e with e | e | e
   · exact (lv a (.inr (.inr (.inl (.inl ⟨x, h⟩))))).2 e
   · exact (lv a (.inr (.inr (.inl (.inl ⟨x, h⟩))))).1 e
   · exact D.apartT x a h e
 · simp only [List.flatten_append, List.flatten_cons, List.singleton_append]
   refine List.nodup_append.mpr ⟨D'.towN, List.nodup_cons.mpr ⟨fun h => (lv _ (.inr (.inr (.inl (.inr h))))).1 rfl, D.towN⟩, fun a ha b hb q => ?_⟩
   subst q
   rcases List.mem_cons.mp hb with h | h
   · exact (D'.free a (.inr ha)).2.2.1 h
   · exact (lv a (.inr (.inr (.inl (.inr h))))).2 ha
theorem cellsFrom_app : ∀ (names : List (Str × NameKind)) (n : Nat) (acc : List (Str × Addr)), cellsFrom n names acc = cellsFrom n names [] ++ acc
 | [], _, _ => rfl
 | (name, kind) :: r, n, acc => by
  unfold cellsFrom
  split
  · rw [cellsFrom_app r (n + 1) ((name, n) :: acc), cellsFrom_app r (n + 1) [(name, n)]]; simp
  · exact cellsFrom_app r n acc
theorem cellsFrom_name : ∀ (names : List (Str × NameKind)) (n : Nat) (y : Str) (c : Addr), (y, c) ∈ cellsFrom n names [] → (y, .cell) ∈ names
 | [], _, _, _, h => by simp [cellsFrom] at h
 | (name, kind) :: r, n, y, c, h => by
  unfold cellsFrom at h
  split at h
  · rename_i hk
    rw [cellsFrom_app] at h
    rcases List.mem_append.mp h with h | h
    · exact List.mem_cons_of_mem _ (cellsFrom_name r _ y c h)
    · simp at h
      obtain ⟨rfl, -⟩ := h
      have : kind = .cell := by simpa using hk
      subst this
      exact List.mem_cons_self
  · exact List.mem_cons_of_mem _ (cellsFrom_name r _ y c h)
noncomputable def closeOver (env : Env) : List (Str × NameKind) → List (Str × Addr) → List (Str × Addr)
 | [], acc => acc
 | (n, kd) :: r, acc => if kd == .free then closeOver env r ((n, (env.cells.lookup n).getD 0) :: acc) else closeOver env r acc
noncomputable def compOk (scope : Scope) (env : Env) : Bool :=
 scope.kind == .function && scope.names.all fun y => scope.names.lookup y.1 == some y.2 && (y.2 != .free || (env.cells.lookup y.1).isSome)
theorem closeOver_spec (env : Env) : ∀ (names : List (Str × NameKind)) (acc : List (Str × Addr)), (∀ y ∈ names, y.2 = .free → (env.cells.lookup y.1).isSome = true) →
 (∀ y ∈ acc, env.cells.lookup y.1 = some y.2) → (∀ y ∈ closeOver env names acc, env.cells.lookup y.1 = some y.2) ∧ (∀ y ∈ acc, y ∈ closeOver env names acc) ∧ (∀ y ∈ names, y.2 = .free → ∃ c, (y.1, c) ∈ closeOver env names acc) ∧
 (forIn names acc (fun (x : Str × NameKind) (r : List (Str × Addr)) => if x.2 == .free then (do let a ← cellOf env x.1; pure (ForInStep.yield ((x.1, a) :: r))) else (pure (ForInStep.yield r) : Sem (ForInStep (List (Str × Addr)))))) = pure (closeOver env names acc)
 | [], acc, _, h => ⟨h, fun y hy => hy, fun y hy => (nomatch hy), by simp [closeOver]⟩
 | (n, kd) :: r, acc, hf, h => by
  unfold closeOver
  cases hk : kd == NameKind.free with
  | true =>
   have hkf : kd = .free := by simpa using hk
   subst hkf
   obtain ⟨c, hc⟩ := Option.isSome_iff_exists.mp (hf _ List.mem_cons_self rfl)
   dsimp only at hc
   refine x03 (closeOver_spec env r ((n, (env.cells.lookup n).getD 0) :: acc) (fun y hy => hf y (List.mem_cons_of_mem _ hy)) (fun y hy => by
    rcases List.mem_cons.mp hy with rfl | hy
    · simp [hc]
    · exact h y hy)) fun a1 a2 a3 a4 => ?_
   simp only [if_true]
   refine ⟨a1, fun y hy => a2 y (List.mem_cons_of_mem _ hy), fun y hy he => ?_, ?_⟩
   · rcases List.mem_cons.mp hy with rfl | hy
     · exact ⟨_, a2 _ List.mem_cons_self⟩
     · exact a3 y hy he
   · rw [List.forIn_cons]
     simp only [hk, if_true]
     rw [show cellOf env n = pure c by unfold cellOf; rw [hc]]
     simp only [hc, Option.getD_some] at a4
     simpa [hc] using a4
  | false =>
   refine x03 (closeOver_spec env r acc (fun y hy => hf y (List.mem_cons_of_mem _ hy)) h) fun a1 a2 a3 a4 => ?_
   simp only [Bool.false_eq_true, if_false]
   refine ⟨a1, a2, fun y hy he => ?_, ?_⟩
   · rcases List.mem_cons.mp hy with rfl | hy
     · dsimp only at he; subst he; exact tf hk
     · exact a3 y hy he
   · rw [List.forIn_cons]
     simp only [hk, Bool.false_eq_true, if_false]
     simpa using a4
theorem closureFor_eq {scope : Scope} {env : Env} (hf : ∀ y ∈ scope.names, y.2 = .free → (env.cells.lookup y.1).isSome = true) : closureFor scope env = pure (closeOver env scope.names []) := by
 have := (closeOver_spec env scope.names [] hf (fun y hy => nomatch hy)).2.2.2
 unfold closureFor
 simp only [bind_pure]
 rw [← this]
noncomputable abbrev compEnvL (scope : Scope) (Ca : Addr) (env : Env) : Env := compEnvC scope (cellsFrom (Ca + 1) scope.names (closeOver env scope.names [])) Ca env
noncomputable def capt (scope : Scope) (env : Env) (ρ : Rho) : Rho := fun x => if scope.names.lookup x = some .free ∧ env.kindOf x = some .cell then (match ρ x with | some (.fr p) => some (.fr p) | _ => none) else none
theorem lookup_of_mem {α : Type} : ∀ {l : List (Str × α)} {n : Str} {c : α}, (n, c) ∈ l → ∃ d, l.lookup n = some d ∧ (n, d) ∈ l
 | (k, v) :: r, n, c, h => by
  rw [List.lookup_cons]
  cases hb : n == k with
  | true => exact ⟨v, rfl, by rw [beq_iff_eq.mp hb]; exact List.mem_cons_self⟩
  | false =>
   rcases List.mem_cons.mp h with e | h
   · cases e; simp at hb
   · refine x11 (lookup_of_mem h) fun d h1 h2 => ?_; exact ⟨d, h1, List.mem_cons_of_mem _ h2⟩
theorem lookup_relabel_free {env : Env} (hk : env.scope.kind = .function) : ∀ {names : List (Str × NameKind)} {x : Str}, names.lookup x = some .free → env.kindOf x = some .cell →
 (names.map fun (n, k) => if (k == NameKind.free && env.scope.kind == .function && env.kindOf n == some .cell) then (n, NameKind.cell) else (n, k)).lookup x = some .cell
 | [], _, h, _ => by simp at h
 | (n, kd) :: r, x, h, hc => by
  have ih := @lookup_relabel_free env hk r x
  rw [List.map_cons]
  show List.lookup x ((if (kd == NameKind.free && env.scope.kind == .function && env.kindOf n == some .cell) = true then (n, NameKind.cell) else (n, kd)) :: _) = _
  cases hx : x == n with
  | true =>
   simp only [List.lookup_cons, hx] at h
   obtain rfl := si h
   have : x = n := beq_iff_eq.mp hx
   subst this
   simp [List.lookup_cons, hk, hc]
  | false =>
   simp only [List.lookup_cons, hx] at h
   by_cases hq : (kd == NameKind.free && env.scope.kind == .function && env.kindOf n == some .cell) = true
   · rw [if_pos hq]; simp only [List.lookup_cons, hx]; exact ih h hc
   · rw [if_neg hq]; simp only [List.lookup_cons, hx]; exact ih h hc
theorem SimD.enterComp {L : Loc} {it : Value} {kp : PH} {m : Str → Option Value} {own : Str → List Addr} {wr : List Addr} {tow : List (List Addr)} {scope : Scope}
 (D : SimD C kk fk env ρ ((L, .one it) :: tmp) s kp m own (wr :: tow)) (hok : compOk scope env = true) :
 Sim C kp (fun a => if a ∈ wr then none else besides kp s.heap a) (compEnvL scope (s.heap.objs.size + 1) env) (capt scope env ρ) [(.ol [], .one (.ref s.heap.objs.size)), (L, .one it)]
  { s with heap := pushCells ((s.heap.push { cls := .type "list", data := .seq #[] }).push { cls := .type "dict", data := .dict #[] }) scope.names } := by
 simp only [compOk, Bool.and_eq_true, List.all_eq_true, Bool.or_eq_true, bne_iff_ne, ne_eq, beq_iff_eq] at hok
 obtain ⟨hkind, hok⟩ := hok
 have hfree : ∀ y ∈ scope.names, y.2 = .free → (env.cells.lookup y.1).isSome = true := fun y hy e => (hok y hy).2.resolve_left fun q => q e
 refine x03 (closeOver_spec env scope.names [] hfree (fun y hy => nomatch hy)) fun c1 _ c3 _ => ?_
 have keep : ∀ b o, s.heap.get? b = some o → (pushCells ((s.heap.push { cls := .type "list", data := .seq #[] }).push { cls := .type "dict", data := .dict #[] }) scope.names).get? b = some o := fun b o e =>
  pushCells_keeps _ _ b o (Heap.get?_push_of_some _ (Heap.get?_push_of_some _ e))
 have dead : ∀ b, s.heap.objs.size ≤ b → s.heap.get? b = none := fun b hb => by
  cases e : s.heap.get? b with
  | none => rfl
  | some o => exact absurd (Heap.lt_size e) (Nat.not_lt.mpr hb)
 have kpd : ∀ b, s.heap.objs.size ≤ b → kp b = none := fun b hb => by
  cases e : kp b with
  | none => rfl
  | some o => have := D.kept b o e; rw [dead b hb] at this; exact no this
 have fkd : ∀ b, s.heap.objs.size ≤ b → (fun a => if a ∈ wr then none else besides kp s.heap a) b = none := fun b hb => by
  by_cases h : b ∈ wr
  · simp [h]
  · simp [h, besides, kpd b hb, dead b hb]
 have ok := cellsFrom_ok scope.names ((s.heap.push { cls := .type "list", data := .seq #[] }).push { cls := .type "dict", data := .dict #[] }) (s.heap.objs.size + 2) [] ⟨fun _ _ hm => (nomatch hm), List.Pairwise.nil⟩ (by simp [Heap.size_push])
 rw [show ((s.heap.push { cls := .type "list", data := .seq #[] }).push { cls := .type "dict", data := .dict #[] }).objs.size = s.heap.objs.size + 2 by simp [Heap.size_push]] at ok
 have oldc : ∀ y c, (y, c) ∈ closeOver env scope.names [] → env.cells.lookup y = some c := fun y c h => c1 (y, c) h
 have cellAt : ∀ y c, (compEnvL scope (s.heap.objs.size + 1) env).cells.lookup y = some c → (y, c) ∈ cellsFrom (s.heap.objs.size + 2) scope.names [] ∨ env.cells.lookup y = some c := fun y c e => by
  have hm := mem_of_lookup e
  have hm2 : (y, c) ∈ cellsFrom (s.heap.objs.size + 1 + 1) scope.names (closeOver env scope.names []) := hm
  rw [cellsFrom_app] at hm2
  exact (List.mem_append.mp hm2).imp id (oldc y c)
 have liveOld : ∀ a, ((∃ x, a ∈ own x) ∨ a ∈ (wr :: tow).flatten) → a < s.heap.objs.size := fun a h => let ⟨o, e⟩ := D.live h; Heap.lt_size e
 have wrIn : ∀ a ∈ wr, a ∈ (wr :: tow).flatten := fun a h => by rw [List.flatten_cons]; exact List.mem_append_left _ h
 obtain ⟨r1, r2⟩ := D.tmps.inv2
 have wrN : wr.Nodup := by have := D.towN; rw [List.flatten_cons] at this; exact (List.nodup_append.mp this).1
 refine ⟨kp, fun _ => none, fun _ => [], [[s.heap.objs.size], wr], {
  rest := by refine x20 D.rest fun h t e => ?_; exact ⟨_, t, by rw [e]⟩
  base := fun b o e => D.le _ _ (D.base b o e)
  le := fun _ _ e => e
  kept := fun b o e => keep _ _ (D.kept b o e)
  fkept := fun b o e => keep _ _ (by
   split at e
   · exact no e
   · unfold besides at e; split at e <;> first | exact e | exact no e)
  kf := fun b o e => by
   split at e
   · exact no e
   · unfold besides at e; split at e <;> first | assumption | exact no e
  ns := ?_
  nl := kpd _ (Nat.le_succ _)
  vars := fun y l e => ?_
  noVar := fun _ _ => rfl
  tmps := .cons (.ol (vs := #[]) ⟨_, pushCells_keeps _ _ _ _ (Heap.get?_push_of_some _ (Heap.get?_push_size _ rfl))⟩ (by simpa using Rps.nil)) (.cons (r1.keeps keep) .nil)
  free := fun a h => ?_
  apart := fun _ _ _ h => by simp at h
  apartT := fun _ _ h => by simp at h
  towN := ?_
  cells := fun y c e => ?_
  wcell := ⟨fun y c e hlt => ?_, fun y z c e1 hlt e2 => ?_⟩
  globals := D.globals
  builtins := D.builtins
  kind := hkind }⟩
 · have := Heap.Ns.new (s.heap.push { cls := .type "list", data := .seq #[] }) (.type "dict")
   rw [Heap.size_push] at this
   exact this.keeps (pushCells_keeps _ _)
 · unfold capt at e
   split at e
   · rename_i hc
     cases hr : ρ y with
     | none => rw [hr] at e; exact no e
     | some l' =>
      rw [hr] at e
      cases l' with
      | fr p =>
       obtain rfl := si e
       refine x11 (D.vars y _ hr) fun v hv hp => ?_
       obtain ⟨hp, -⟩ := hp.fr_inv
       rcases hv with ⟨h1, -⟩ | ⟨h1, c, h2, h3⟩
       · rw [hc.2] at h1; cases h1
       · refine ⟨v, .inr ⟨lookup_relabel_free D.kind hc.1 hc.2, c, ?_, h3.keeps keep⟩, .fr hp⟩
         show (cellsFrom (s.heap.objs.size + 1 + 1) scope.names (closeOver env scope.names [])).lookup y = some c
         obtain ⟨c0, hm⟩ := c3 (y, .free) (mem_of_lookup hc.1) rfl
         have hm' : (y, c0) ∈ cellsFrom (s.heap.objs.size + 1 + 1) scope.names (closeOver env scope.names []) := by rw [cellsFrom_app]; exact List.mem_append_right _ hm
         refine x11 (lookup_of_mem hm') fun d hd1 hd2 => ?_
         rw [hd1]
         rw [cellsFrom_app] at hd2
         rcases List.mem_append.mp hd2 with hd2 | hd2
         · have hcl := (hok _ (cellsFrom_name _ _ _ _ hd2)).1
           dsimp only at hcl
           rw [hc.1] at hcl; cases hcl
         · rw [← oldc y d hd2, h2]
      | _ => exact no e
   · exact no e
 · simp only [List.flatten_cons, List.flatten_nil, List.append_nil, List.singleton_append, List.mem_cons, List.not_mem_nil, exists_false, false_or] at h
   rcases h with rfl | h
   · refine ⟨kpd _ (Nat.le_refl _), fkd _ (Nat.le_refl _), Nat.ne_of_lt (Nat.lt_succ_self _), fun y c e q => ?_⟩
     subst q
     rcases cellAt y _ e with h | h
     · have := (ok.empty _ _ h).2; omega
     · obtain ⟨⟨w, hcell⟩, -⟩ := D.cells y _ h
       exact absurd hcell.lt (Nat.lt_irrefl _)
   · have hf := D.free a (.inr (wrIn a h))
     have hlt := liveOld a (.inr (wrIn a h))
     refine ⟨hf.1, by simp [h], Nat.ne_of_lt (Nat.lt_succ_of_lt hlt), fun y c e q => ?_⟩
     subst q
     rcases cellAt y _ e with h | h
     · exact absurd hlt (Nat.not_lt.mpr (Nat.le_trans (Nat.le_add_right _ 2) (ok.empty _ _ h).2))
     · exact hf.2.2.2 y _ h rfl
 · simp only [List.flatten_cons, List.flatten_nil, List.append_nil, List.singleton_append, List.nodup_cons]
   exact ⟨fun h => absurd (liveOld _ (.inr (wrIn _ h))) (Nat.lt_irrefl _), wrN⟩
 · rcases cellAt y c e with h | h
   · have := ok.empty _ _ h
     exact ⟨⟨_, this.1⟩, Nat.ne_of_gt (Nat.lt_of_lt_of_le (Nat.lt_succ_self _) this.2)⟩
   · obtain ⟨⟨w, hcell⟩, -⟩ := D.cells y c h
     exact ⟨⟨w, hcell.keeps keep⟩, Nat.ne_of_lt (Nat.lt_succ_of_lt hcell.lt)⟩
 · have : s.heap.objs.size ≤ c := Nat.le_of_lt (Nat.lt_trans (Nat.lt_succ_self _) hlt)
   exact kpd c this
 · have hlt' : s.heap.objs.size + 1 < c := hlt
   have inn : ∀ y, (compEnvL scope (s.heap.objs.size + 1) env).cells.lookup y = some c → (y, c) ∈ cellsFrom (s.heap.objs.size + 2) scope.names [] := fun y e => by
    rcases cellAt y c e with h | h
    · exact h
    · obtain ⟨⟨w, hcell⟩, -⟩ := D.cells y c h
      exact absurd hcell.lt (Nat.not_lt.mpr (Nat.le_trans (Nat.le_add_right _ 1) (Nat.le_of_lt hlt')))
   exact name_of_addr ok.apart (inn y e1) (inn z e2)
end
section
variable {C : Cx} {k : Nat} {kk fk : PH} {env : Env} {ρ ρ' : Rho} {tmp : List (Loc × LV)} {s : Shared}
def Turn (C : Cx) (t : Expr) (L : Loc) (p : PV) (L' : Loc) : Prop :=
 ∀ (A : Around) (kk fk : PH) (env : Env) (ρ : Rho) (tmp : List (Loc × LV)) (it : Value) (s : Shared) (Q : Value → Shared → Prop) (E : Value → Shared → Prop) (E' : Value → Shared → Prop), A.handled = none → Sim C kk fk env ρ ((L, .one it) :: tmp) s →
  (∀ v s', Sim C kk fk env ρ ((.fr p, .one v) :: (L', .one it) :: tmp) s' → Q v s') →
  wpAny (model C.prog C.w) A (pyNext it) (fun r s1 => ∃ v, r = some v ∧ wpAny (model C.prog C.w) A (letOwnedTupleGo t it v) (fun _ s2 => Q v s2) E' s1) E s
def TurnEnd (C : Cx) (L : Loc) : Prop :=
 ∀ (A : Around) (kk fk : PH) (env : Env) (ρ : Rho) (tmp : List (Loc × LV)) (it : Value) (s : Shared) (Q : Shared → Prop) (E : Value → Shared → Prop), A.handled = none → Sim C kk fk env ρ ((L, .one it) :: tmp) s →
  (∀ s', Sim C kk fk env ρ tmp s' → Q s') → wpAny (model C.prog C.w) A (pyNext it) (fun r s1 => r = none ∧ Q s1) E s
inductive Steps (C : Cx) (t : Expr) : Loc → List PV → Prop
 | nil {L : Loc} (h : TurnEnd C L) : Steps C t L []
 | cons {L L' : Loc} {p : PV} {xs : List PV} (h : Turn C t L p L') (r : Steps C t L' xs) : Steps C t L (p :: xs)
theorem Steps.name {x : Str} {px : Pos} : ∀ {xs : List PV}, Steps C (.Name x px) (.itr xs) xs
 | [] => .nil fun A kk fk env ρ tmp it s Q E hA S H => S.nextEnd hA fun s' S' => ⟨rfl, H s' S'⟩
 | p :: xs => .cons (fun A kk fk env ρ tmp it s Q E E' hA S H => S.next hA fun v s' S' => ⟨v, rfl, wpAny_of_eq (rfl : letOwnedTupleGo (.Name x px) it v = pure ()) (H v s' S')⟩) Steps.name
theorem letGo_quiet {A : Around} {elts : List Expr} {n : Nat} {pos : Pos} {it v : Value} {s : Shared} {Q : Unit → Shared → Prop} {E : Value → Shared → Prop} (h : ∀ r, it = .ref r → ∃ o, s.heap.get? r = some o ∧ NoOwned o) (hQ : Q () s) :
 wpAny (model C.prog C.w) A (letOwnedTupleGo (.Tuple elts n pos) it v) Q E s := by
 cases it with
 | ref r =>
  cases v with
  | ref a =>
   refine x11 (h r rfl) fun o ho hq => ?_
   refine wpAny_bind (wpAny_load ho ?_)
   unfold NoOwned at hq
   generalize o.cls = c at hq ⊢
   generalize o.data = d at hq ⊢
   cases c with
   | type nm =>
    cases d with
    | fields vs =>
     dsimp only at hq ⊢
     rw [if_neg (by rw [hq, Bool.false_and]; decide)]
     exact wpAny_pure hQ
    | _ => exact wpAny_pure hQ
   | _ => exact wpAny_pure hQ
  | _ => exact wpAny_pure hQ
 | _ => exact wpAny_pure hQ
theorem Sim.next' {A : Around} {p : PV} {xs : List PV} {it : Value} {Q : Option Value → Shared → Prop} {E : Value → Shared → Prop} (hA : A.handled = none) (S : Sim C kk fk env ρ ((.itr (p :: xs), .one it) :: tmp) s)
 (H : ∀ v s', (∀ r, it = .ref r → ∃ o, s'.heap.get? r = some o ∧ NoOwned o) → Sim C kk fk env ρ ((.fr p, .one v) :: (.itr xs, .one it) :: tmp) s' → Q (some v) s') : wpAny (model C.prog C.w) A (pyNext it) Q E s :=
 S.next hA fun v s' S' => H v s' (by
  refine x40 S' fun kp m own tow D => ?_; clear S'
  rintro r rfl
  refine x22 D.tmps.inv fun _ _ z1 r1 r2 => ?_; subst z1
  cases r2 with
  | cons r3 r4 =>
  cases r3 with
  | itr hW hst hlen hval hfp hlive hnd hcls => exact hcls _ _ hst) S'
theorem Steps.tup {elts : List Expr} {n : Nat} {pos : Pos} : ∀ {xs : List PV}, Steps C (.Tuple elts n pos) (.itr xs) xs
 | [] => .nil fun A kk fk env ρ tmp it s Q E hA S H => S.nextEnd hA fun s' S' => ⟨rfl, H s' S'⟩
 | p :: xs => .cons (fun A kk fk env ρ tmp it s Q E E' hA S H => S.next' hA fun v s' hq S' => ⟨v, rfl, letGo_quiet hq (H v s' S')⟩) Steps.tup
theorem Sim.nextT {A : Around} {ps : List PV} {xs : List (List PV)} {it : Value} {elts : List Expr} {n : Nat} {pos : Pos} {Q : Value → Shared → Prop} {E E' : Value → Shared → Prop} (hA : A.handled = none) (S : Sim C kk fk env ρ ((.itt (ps :: xs), .one it) :: tmp) s)
 (H : ∀ v s', Sim C kk fk env ρ ((.fr (.tup ps), .one v) :: (.itt xs, .one it) :: tmp) s' → Q v s') :
 wpAny (model C.prog C.w) A (pyNext it) (fun r s1 => ∃ v, r = some v ∧ wpAny (model C.prog C.w) A (letOwnedTupleGo (.Tuple elts n pos) it v) (fun _ s2 => Q v s2) E' s1) E s := by
 refine x40 S fun kp m own tow D => ?_; clear S
 refine x22 D.tmps.inv fun wr tow' z1 r1 r2 => ?_; subst z1
 cases r1 with
 | @itt _ I fp _ n P St Mid i hW hst hlen hval hfp hlive hnd =>
 simp only [List.length_cons] at hlen
 refine (hW A hA).item i s _ E (by omega) hst fun T vals h' tk hP hT hTup hmid hk => ⟨_, rfl, ?_⟩
 refine (hW A hA).go _ _ _ i T _ _ _ hmid fun h'' hst' hk' => ?_
 have hp : Rps kp ps vals.toList := hval 0 vals ps (by simpa using hP) (by simp)
 have hTw : T ∉ wr := (hW A hA).apart _ _ _ hmid
 have hall : ∀ b o, b ∉ wr → s.heap.get? b = some o → h''.get? b = some o := fun b o hb e => hk' b o hb (hk b o hb e)
 obtain ⟨oT, hTo, hTc, nT, hTd⟩ := hTup
 have hTo'' : h''.get? T = some oT := hk' T oT hTw hTo
 have G := D.swap (h' := h'') (tk := tk) (l' := .itt xs) (v' := .one (.ref I)) hall (.itt (i := i + 1) hW hst' (by omega) (fun j v' p' hPj hj => hval (j + 1) v' p' (by rw [show i + (j + 1) = i + 1 + j by omega]; exact hPj) (by simpa using hj)) hfp hlive hnd)
 have dead : ∀ (f : PH), (∀ a o, f a = some o → s.heap.get? a = some o) → f T = none := fun f hf => by
  cases e : f T with
  | none => rfl
  | some o => exact absurd (Heap.lt_size (hf _ _ e)) (Nat.not_lt.mpr hT)
 have hle : PH.le kp (fun a => if a = T then some oT else kp a) := fun a o e => by
  have : a ≠ T := fun q => by subst q; rw [dead kp D.kept] at e; cases e
  simp [this, e]
 have U := G.up (kp' := fun a => if a = T then some oT else kp a) hle (fun a o e => by
  split at e
  · rename_i q; subst q; obtain rfl := si e; exact hTo''
  · exact G.kept a o e) fun a h => by
  have hne : a ≠ T := by
   have liveOld : ∃ o, s.heap.get? a = some o := by
    rcases h with rfl | h | h | ⟨x, h1, h2⟩
    · refine x31 D.ns fun o es n ho _ => ?_; exact ⟨o, ho⟩
    · cases e : fk a with
      | none => exact absurd e h
      | some o => exact ⟨o, D.fkept a o e⟩
    · exact D.live h
    · obtain ⟨⟨w, o, ho, _⟩, _⟩ := D.cells x a h1; exact ⟨o, ho⟩
   intro q; subst q
   obtain ⟨o, e⟩ := liveOld
   exact absurd (Heap.lt_size e) (Nat.not_lt.mpr hT)
  simp only [if_neg hne]
  rcases h with rfl | h | h | ⟨x, h1, h2⟩
  · exact D.nl
  · cases e : fk a with
    | none => exact absurd e h
    | some o => exact D.kf a o e
  · exact (D.free a h).1
  · exact h2
 exact H _ _ ⟨_, m, own, _, U.pushFr (.tup (a := T) (o := oT) (by simp) hTc hTd (hp.mono hle))⟩
theorem Sim.nextTEnd {A : Around} {it : Value} {Q : Option Value → Shared → Prop} {E : Value → Shared → Prop} (hA : A.handled = none) (S : Sim C kk fk env ρ ((.itt [], .one it) :: tmp) s)
 (H : ∀ s', Sim C kk fk env ρ tmp s' → Q none s') : wpAny (model C.prog C.w) A (pyNext it) Q E s := by
 refine x40 S fun kp m own tow D => ?_; clear S
 refine x22 D.tmps.inv fun _ _ z1 r1 r2 => ?_; subst z1
 cases r1 with
 | @itt _ I fp wr n P St Mid i hW hst hlen hval hfp hlive hnd =>
 simp only [List.length_nil, Nat.add_zero] at hlen
 subst hlen
 exact (hW A hA).done s Q E hst fun h' tk hk => H _ ⟨kp, m, own, _, D.drop hk⟩
theorem Steps.itt {elts : List Expr} {n : Nat} {pos : Pos} : ∀ {xs : List (List PV)}, Steps C (.Tuple elts n pos) (.itt xs) (xs.map .tup)
 | [] => .nil fun A kk fk env ρ tmp it s Q E hA S H => S.nextTEnd hA fun s' S' => ⟨rfl, H s' S'⟩
 | p :: xs => .cons (fun A kk fk env ρ tmp it s Q E E' hA S H => S.nextT hA H) Steps.itt
def Self (C : Cx) (L : Loc) : Prop :=
 ∀ (A : Around) (kk fk : PH) (env : Env) (ρ : Rho) (tmp tmp' : List (Loc × LV)) (it : Value) (s : Shared) (Q : Value → Shared → Prop) (E : Value → Shared → Prop), A.handled = none → Sim C kk fk env ρ (tmp' ++ (L, .one it) :: tmp) s →
  Q it s → wpAny (model C.prog C.w) A (pyIter it) Q E s
theorem Tm.mem {kp : PH} {h : Heap} {l : Loc} {v : LV} : ∀ {tmp' tmp : List (Loc × LV)} {tow : List (List Addr)}, Tm C kp h (tmp' ++ (l, v) :: tmp) tow → ∃ ow, RpL C kp h l v ow
 | [], _, _, .cons a _ => ⟨_, a⟩
 | _ :: r, _, _, .cons _ b => Tm.mem (tmp' := r) b
theorem Self.itr {xs : List PV} : Self C (.itr xs) := fun A kk fk env ρ tmp tmp' it s Q E hA S H => by
 refine x40 S fun kp m own tow D => ?_; clear S
 obtain ⟨ow, r⟩ := D.tmps.mem
 cases r with
 | itr hW hst hlen hval hfp hlive hnd hcls => exact (hW A hA).self _ s Q E hst H
theorem Self.itt {xs : List (List PV)} : Self C (.itt xs) := fun A kk fk env ρ tmp tmp' it s Q E hA S H => by
 refine x40 S fun kp m own tow D => ?_; clear S
 obtain ⟨ow, r⟩ := D.tmps.mem
 cases r with
 | itt hW hst hlen hval hfp hlive hnd => exact (hW A hA).self _ s Q E hst H
structure EvIt (C : Cx) (k : Nat) (env : Env) (ρ : Rho) (e : Expr) (L : Loc) : Prop where
 run : ∀ (A : Around) (kk fk : PH) (tmp : List (Loc × LV)) (s : Shared) (Q : Value → Shared → Prop) (E : Value → Shared → Prop), Rm A k → Sim C kk fk env ρ tmp s → (∀ it s', Sim C kk fk env ρ ((L, .one it) :: tmp) s' → Q it s') → wpAny (model C.prog C.w) A (eval e env) (fun v s1 => wpAny (model C.prog C.w) A (pyIter v) Q E s1) E s
theorem EvIt.of {e : Expr} {p : PV} {xs : List PV} (h : Ev C k env ρ e (.fr p)) (hp : Iter C k p xs) : EvIt C k env ρ e (.itr xs) := .mk fun A kk fk tmp s Q E R S H =>
 h.run A kk fk tmp s _ E R S fun v s1 S1 => hp.run A kk fk env ρ tmp v s1 Q E R S1 H
theorem Turn.flip {A : Around} {t : Expr} {L L' : Loc} {p : PV} {it : Value} {P : Option Value → Shared → Prop} {Y : Value → Shared → Prop} {E E' : Value → Shared → Prop} (hq : ∀ v s1, wpAny (model C.prog C.w) A (letOwnedTupleGo t it v) (fun _ s2 => Y v s2) E' s1 → P (some v) s1)
 (h : Turn C t L p L') (hA : A.handled = none) (S : Sim C kk fk env ρ ((L, .one it) :: tmp) s) (H : ∀ v s', Sim C kk fk env ρ ((.fr p, .one v) :: (L', .one it) :: tmp) s' → Y v s') : wpAny (model C.prog C.w) A (pyNext it) P E s :=
 wpAny_mono (h A kk fk env ρ tmp it s Y E E' hA S H) (fun r s1 q => by obtain ⟨v, rfl, q⟩ := q; exact hq v s1 q) fun _ _ e => e
theorem TurnEnd.flip {A : Around} {L : Loc} {it : Value} {P : Option Value → Shared → Prop} {Y : Shared → Prop} {E : Value → Shared → Prop} (hq : ∀ s1, Y s1 → P none s1)
 (h : TurnEnd C L) (hA : A.handled = none) (S : Sim C kk fk env ρ ((L, .one it) :: tmp) s) (H : ∀ s', Sim C kk fk env ρ tmp s' → Y s') : wpAny (model C.prog C.w) A (pyNext it) P E s :=
 wpAny_mono (h A kk fk env ρ tmp it s Y E hA S H) (fun r s1 q => by obtain ⟨rfl, q⟩ := q; exact hq s1 q) fun _ _ e => e
inductive LoopN (C : Cx) (k : Nat) (env : Env) (t : Expr) (body : List Stmt) : Nat → Loc → Rho → Out → Rho → Prop
 | nil {n : Nat} {L : Loc} {ρ : Rho} (h : TurnEnd C L) : LoopN C k env t body n L ρ .next ρ
 | next {n : Nat} {L L' : Loc} {p : PV} {ρ ρ1 ρ2 ρ3 : Rho} {o : Out} (h : Turn C t L p L') (ha : As C k env ρ t p ρ1) (hb : Exs C k env ρ1 body .next ρ2) (hr : LoopN C k env t body n L' ρ2 o ρ3) : LoopN C k env t body (n + 1) L ρ o ρ3
 | cont {n : Nat} {L L' : Loc} {p : PV} {ρ ρ1 ρ2 ρ3 : Rho} {o : Out} (h : Turn C t L p L') (ha : As C k env ρ t p ρ1) (hb : Exs C k env ρ1 body .cont ρ2) (hr : LoopN C k env t body n L' ρ2 o ρ3) : LoopN C k env t body (n + 1) L ρ o ρ3
 | brk {n : Nat} {L L' : Loc} {p : PV} {ρ ρ1 ρ2 : Rho} (h : Turn C t L p L') (ha : As C k env ρ t p ρ1) (hb : Exs C k env ρ1 body .brk ρ2) : LoopN C k env t body n L ρ .next ρ2
 | ret {n : Nat} {L L' : Loc} {p : PV} {ρ ρ1 ρ2 : Rho} {l : Loc} (h : Turn C t L p L') (ha : As C k env ρ t p ρ1) (hb : Exs C k env ρ1 body (.ret l) ρ2) : LoopN C k env t body n L ρ (.ret l) ρ2
def LoopL (C : Cx) (k : Nat) (env : Env) (t : Expr) (body : List Stmt) (L : Loc) (ρ : Rho) (o : Out) (ρ' : Rho) : Prop := ∃ n, LoopN C k env t body n L ρ o ρ'
section
variable {t : Expr} {body : List Stmt} {L L' : Loc} {p : PV} {ρ1 ρ2 ρ3 : Rho} {o : Out}
theorem LoopL.nil (h : TurnEnd C L) : LoopL C k env t body L ρ .next ρ := ⟨0, .nil h⟩
theorem LoopL.next (h : Turn C t L p L') (ha : As C k env ρ t p ρ1) (hb : Exs C k env ρ1 body .next ρ2) (hr : LoopL C k env t body L' ρ2 o ρ3) : LoopL C k env t body L ρ o ρ3 := hr.elim fun n q => ⟨n + 1, .next h ha hb q⟩
theorem LoopL.cont (h : Turn C t L p L') (ha : As C k env ρ t p ρ1) (hb : Exs C k env ρ1 body .cont ρ2) (hr : LoopL C k env t body L' ρ2 o ρ3) : LoopL C k env t body L ρ o ρ3 := hr.elim fun n q => ⟨n + 1, .cont h ha hb q⟩
theorem LoopL.brk (h : Turn C t L p L') (ha : As C k env ρ t p ρ1) (hb : Exs C k env ρ1 body .brk ρ2) : LoopL C k env t body L ρ .next ρ2 := ⟨0, .brk h ha hb⟩
theorem LoopL.ret {l : Loc} (h : Turn C t L p L') (ha : As C k env ρ t p ρ1) (hb : Exs C k env ρ1 body (.ret l) ρ2) : LoopL C k env t body L ρ (.ret l) ρ2 := ⟨0, .ret h ha hb⟩
theorem LoopN.inv {n : Nat} {G : Prop} (hl : LoopN C k env t body n L ρ o ρ') (h1 : TurnEnd C L → o = .next → ρ = ρ' → G)
 (h2 : ∀ m L' p ρ1 ρ2 o1, n = m + 1 → Turn C t L p L' → As C k env ρ t p ρ1 → Exs C k env ρ1 body o1 ρ2 → (o1 = .next ∨ o1 = .cont) → LoopN C k env t body m L' ρ2 o ρ' → G)
 (h3 : ∀ L' p ρ1, Turn C t L p L' → As C k env ρ t p ρ1 → Exs C k env ρ1 body .brk ρ' → o = .next → G)
 (h4 : ∀ L' p ρ1 l, Turn C t L p L' → As C k env ρ t p ρ1 → Exs C k env ρ1 body (.ret l) ρ' → o = .ret l → G) : G := by
 cases hl with
 | nil h => exact h1 h rfl rfl
 | next h ha hb hr => exact h2 _ _ _ _ _ _ rfl h ha hb (.inl rfl) hr
 | cont h ha hb hr => exact h2 _ _ _ _ _ _ rfl h ha hb (.inr rfl) hr
 | brk h ha hb => exact h3 _ _ _ h ha hb rfl
 | ret h ha hb => exact h4 _ _ _ _ h ha hb rfl
end
theorem LoopL.of {t : Expr} {body : List Stmt} {L : Loc} {xs : List PV} {o : Out} (hs : Steps C t L xs) (hl : Loop C k env t body xs ρ o ρ') : LoopL C k env t body L ρ o ρ' := by
 induction hl generalizing L with
 | nil => cases hs with | nil h => exact .nil h
 | next ha hb hr ih => cases hs with | cons h r => exact .next h ha hb (ih r)
 | cont ha hb hr ih => cases hs with | cons h r => exact .cont h ha hb (ih r)
 | brk ha hb => cases hs with | cons h r => exact .brk h ha hb
 | ret ha hb => cases hs with | cons h r => exact .ret h ha hb
theorem OutQ.at {Q : Flow → Shared → Prop} {o : Out} (H : OutQ C kk fk env ρ tmp Q o) (e : o = .next) : ∀ s', Sim C kk fk env ρ tmp s' → Q .next s' := by subst e; exact H
theorem OutQ.atR {Q : Flow → Shared → Prop} {o : Out} {l : Loc} (H : OutQ C kk fk env ρ tmp Q o) (e : o = .ret l) : ∀ v s', Sim C kk fk env ρ ((l, .one v) :: tmp) s' → Q (.ret v) s' := by subst e; exact H
theorem OutQ.again {Q : Flow → Shared → Prop} {o : Out} (e : o = .next ∨ o = .cont) (h1 : ∀ s', Sim C kk fk env ρ tmp s' → Q .next s') (h2 : ∀ s', Sim C kk fk env ρ tmp s' → Q .cont s') : OutQ C kk fk env ρ tmp Q o := by
 rcases e with rfl | rfl
 · exact h1
 · exact h2
theorem codeForL {t : Expr} {body : List Stmt} {A : Around} {it : Value} {R : Result → Shared → Prop} (RA : Rm A k) (W : Wf fk env) {L : Loc} {o : Out}
 (hl : LoopL C k env t body L ρ o ρ') (S : Sim C kk fk env ρ ((L, .one it) :: tmp) s) (H : OutQ C kk fk env ρ' tmp (fun f s' => R (.ok f) s') o) :
 codeAny (model C.prog C.w) A (.forLoop t it body [] env) R s := by
 obtain ⟨n, hn⟩ := hl
 refine codeAny_forLoop_any (fun n s' => ∃ L ρ, LoopN C k env t body n L ρ o ρ' ∧ Sim C kk fk env ρ ((L, .one it) :: tmp) s') ?_ n ⟨L, ρ, hn, S⟩
 exact fun n s' h => x21 h fun L ρ hl S => hl.inv
  (fun h e1 e2 => TurnEnd.flip (fun s1 q => q) h RA.handled S fun s1 S1 => wpAny_execs_nil (H.at e1 s1 (e2 ▸ S1)))
  (fun m L' p ρ1 ρ2 o1 e h ha hb ho hr => Turn.flip (fun v s1 q => q) h RA.handled S fun v s1 S1 => ha.run A kk fk _ v s1 _ _ RA W S1 fun s2 S2 => hb.run A kk fk _ s2 _ _ RA W S2 (OutQ.again ho (fun s3 S3 => ⟨m, e ▸ Nat.lt_succ_self _, _, _, hr, S3⟩) (fun s3 S3 => ⟨m, e ▸ Nat.lt_succ_self _, _, _, hr, S3⟩)))
  (fun L' p ρ1 h ha hb e => Turn.flip (fun v s1 q => q) h RA.handled S fun v s1 S1 => ha.run A kk fk _ v s1 _ _ RA W S1 fun s2 S2 => hb.run A kk fk _ s2 _ _ RA W S2 fun s3 S3 => H.at e s3 S3.pop)
  (fun L' p ρ1 l h ha hb e => Turn.flip (fun v s1 q => q) h RA.handled S fun v s1 S1 => ha.run A kk fk _ v s1 _ _ RA W S1 fun s2 S2 => hb.run A kk fk _ s2 _ _ RA W S2 fun w s3 S3 => H.atR e w s3 S3.pop2)
theorem Ex.forL {t : Expr} {pos : Pos} {iter : Expr} {body : List Stmt} {L : Loc} {o : Out} (hi : EvIt C k env ρ iter L) (hl : LoopL C k env t body L ρ o ρ')
 (hs : ∀ x, foldedSetIterable iter env x = pure x := by intro _; rfl) : Ex C k env ρ (.For t iter body [] pos) o ρ' := .mk fun A kk fk tmp s Q E R W S H =>
 wpAny_For (hi.run A kk fk tmp s _ E R S fun it s2 S2 => codeForL R W hl S2 (by cases o <;> exact H)) hs
structure TsF (C : Cx) (k : Nat) (env : Env) (ρ : Rho) (ifs : List Expr) (b : Bool) : Prop where
 run : ∀ (A : Around) (kk fk : PH) (tmp : List (Loc × LV)) (s : Shared) (Q : Bool → Shared → Prop) (E : Value → Shared → Prop), Rm A k → Sim C kk fk env ρ tmp s → (∀ s', Sim C kk fk env ρ tmp s' → Q b s') → wpAny (model C.prog C.w) A (forIn ifs true fun c r => if r = true then do let ok ← isTrue c env (eval c env); pure (ForInStep.yield ok) else pure (ForInStep.yield r)) Q E s
theorem TsF.nil : TsF C k env ρ [] true := .mk fun A kk fk tmp s Q E R S H => wpAny_tests_nil (H s S)
theorem TsF.one {c : Expr} {b : Bool} (h : Ts C k env ρ c b) : TsF C k env ρ [c] b := .mk fun A kk fk tmp s Q E R S H => wpAny_tests_one (h.run A kk fk tmp s Q E R S H)
inductive CLoop (C : Cx) (k : Nat) (env : Env) (t : Expr) (ifs : List Expr) (elt : Expr) : Loc → Rho → List PV → Prop
 | nil {L : Loc} {ρ : Rho} (h : TurnEnd C L) : CLoop C k env t ifs elt L ρ []
 | skip {L L' : Loc} {p : PV} {ρ ρ1 : Rho} {out : List PV} (h : Turn C t L p L') (ha : As C k env ρ t p ρ1) (ht : TsF C k env ρ1 ifs false) (hr : CLoop C k env t ifs elt L' ρ1 out) : CLoop C k env t ifs elt L ρ out
 | keep {L L' : Loc} {p q : PV} {ρ ρ1 : Rho} {out : List PV} (h : Turn C t L p L') (ha : As C k env ρ t p ρ1) (ht : TsF C k env ρ1 ifs true) (he : Ev C k env ρ1 elt (.fr q)) (hr : CLoop C k env t ifs elt L' ρ1 out) : CLoop C k env t ifs elt L ρ (q :: out)
theorem Sim.append {A : Around} {xs : List PV} {p : PV} {acc v : Value} {Q : Value → Shared → Prop} {E : Value → Shared → Prop} (S : Sim C kk fk env ρ ((.fr p, .one v) :: (.ol xs, .one acc) :: tmp) s) (hsz : xs.length ≤ sizeLine)
 (H : ∀ s', Sim C kk fk env ρ ((.ol (xs ++ [p]), .one acc) :: tmp) s' → Q .none s') : wpAny (model C.prog C.w) A (call (.builtin "list.append") [acc, v]) Q E s := by
 refine x40 S fun kp m own tow D => ?_; clear S
 refine x12 D.top fun tow1 _ hp D1 => ?_
 refine x22 D1.tmps.inv fun ow tow2 z1 r1 r2 => ?_; subst z1
 cases r1 with
 | @ol _ a vs hl hs =>
 refine wpAny_list_append_plain hl (fun h' hl' hsb => H _ ⟨kp, m, own, _, D1.swap (l' := .ol (xs ++ [p])) (v' := .one (.ref a)) (h' := h') (tk := s.toks) (fun b o hb e => (hsb.2 b (by simpa using hb)).trans e) (.ol hl' (by simpa using hs.append (.cons hp .nil)))⟩) ?_
 have := hs.length
 simp at this
 omega
theorem Sim.turn2 {l l2 : Loc} {v v2 : LV} (S : Sim C kk fk env ρ ((l, v) :: (l2, v2) :: tmp) s) : Sim C kk fk env ρ ((l2, v2) :: (l, v) :: tmp) s := by
 refine x40 S fun kp m own tow D => ?_; clear S
 refine x22 D.tmps.inv fun o1 tow' z1 h1 h2 => ?_; subst z1
 cases h2 with
 | @cons _ _ o2 _ tow2 h3 h4 =>
 have htn := D.towN
 simp only [List.flatten_cons] at htn
 refine x02 (List.nodup_append.mp htn) fun n1 n2 n3 => ?_
 refine x02 (List.nodup_append.mp n2) fun n4 n5 n6 => ?_
 have mm : ∀ a, a ∈ (o2 :: o1 :: tow2).flatten → a ∈ (o1 :: o2 :: tow2).flatten := fun a h => by
  simp only [List.flatten_cons, List.mem_append] at h ⊢
  rcases h with h | h | h
  · exact .inr (.inl h)
  · exact .inl h
  · exact .inr (.inr h)
 exact ⟨kp, m, own, o2 :: o1 :: tow2, { D with
  tmps := .cons h3 (.cons h1 h4)
  free := fun a h => D.free a (h.imp id (mm a))
  apartT := fun x a h e => D.apartT x a h (mm a e)
  towN := by
   simp only [List.flatten_cons]
   refine List.nodup_append.mpr ⟨n4, List.nodup_append.mpr ⟨n1, n5, fun a ha b hb => n3 a ha b (List.mem_append_right _ hb)⟩, fun a ha b hb q => ?_⟩
   subst q
   rcases List.mem_append.mp hb with h | h
   · exact n3 a h a (List.mem_append_left _ ha) rfl
   · exact n6 a ha a h rfl }⟩
theorem Sim.turn3 {l l2 l3 : Loc} {v v2 v3 : LV} (S : Sim C kk fk env ρ ((l, v) :: (l2, v2) :: (l3, v3) :: tmp) s) : Sim C kk fk env ρ ((l, v) :: (l3, v3) :: (l2, v2) :: tmp) s := by
 refine x40 S fun kp m own tow D => ?_; clear S
 refine x22 D.tmps.inv fun o1 tow' z1 h1 h2 => ?_; subst z1
 cases h2 with
 | @cons _ _ o2 _ tow2 h3 h4 =>
 cases h4 with
 | @cons _ _ o3 _ tow3 h5 h6 =>
 have htn := D.towN
 simp only [List.flatten_cons] at htn
 refine x02 (List.nodup_append.mp htn) fun n1 n2 n3 => ?_
 refine x02 (List.nodup_append.mp n2) fun n4 n5 n6 => ?_
 refine x02 (List.nodup_append.mp n5) fun n7 n8 n9 => ?_
 have mm : ∀ a, a ∈ (o1 :: o3 :: o2 :: tow3).flatten → a ∈ (o1 :: o2 :: o3 :: tow3).flatten := fun a h => by
  simp only [List.flatten_cons, List.mem_append] at h ⊢
  rcases h with h | h | h | h
  · exact .inl h
  · exact .inr (.inr (.inl h))
  · exact .inr (.inl h)
  · exact .inr (.inr (.inr h))
 exact ⟨kp, m, own, o1 :: o3 :: o2 :: tow3, { D with
  tmps := .cons h1 (.cons h5 (.cons h3 h6))
  free := fun a h => D.free a (h.imp id (mm a))
  apartT := fun x a h e => D.apartT x a h (mm a e)
  towN := by
   simp only [List.flatten_cons]
   refine List.nodup_append.mpr ⟨n1, List.nodup_append.mpr ⟨n7, List.nodup_append.mpr ⟨n4, n8, fun a ha b hb => n6 a ha b (List.mem_append_right _ hb)⟩, fun a ha b hb q => ?_⟩, fun a ha b hb q => ?_⟩
   · subst q
     rcases List.mem_append.mp hb with h | h
     · exact n6 a h a (List.mem_append_left _ ha) rfl
     · exact n9 a ha a h rfl
   · subst q
     refine n3 a ha a ?_ rfl
     simp only [List.mem_append] at hb ⊢
     rcases hb with h | h | h
     · exact .inr (.inl h)
     · exact .inl h
     · exact .inr (.inr h) }⟩
theorem codeAny_compLoop_any {elt target iter : Expr} {ifs : List Expr} {scope : Scope} {pos : Pos} {it acc : Value} {env : Env} {prog : Program} {w : World} {A : Around} {R : Result → Shared → Prop} {s : Shared} (I : Nat → Shared → Prop)
 (turn : ∀ n s, I n s → wpAny (model prog w) A (pyNext it) (fun r s₁ => match r with
  | none => R (.ok .next) s₁
  | some v => wpAny (model prog w) A (letOwnedTupleGo target it v) (fun _ s₁' => wpAny (model prog w) A (assign target env v) (fun _ s₂ =>
   wpAny (model prog w) A (forIn ifs true fun c r => if r = true then do let ok ← isTrue c env (eval c env); pure (ForInStep.yield ok) else pure (ForInStep.yield r)) (fun ok s₃ =>
    if ok = true then wpAny (model prog w) A (eval elt env) (fun x s₄ =>
     wpAny (model prog w) A (call (.builtin "list.append") [acc, x]) (fun _ s₅ => ∃ m, m < n ∧ I m s₅) (notedBy (model prog w) A env fun e s' => R (.error e) s') s₄) (notedBy (model prog w) A env fun e s' => R (.error e) s') s₃
    else ∃ m, m < n ∧ I m s₃) (notedBy (model prog w) A env fun e s' => R (.error e) s') s₂) (notedBy (model prog w) A env fun e s' => R (.error e) s') s₁') (notedBy (model prog w) A env fun e s' => R (.error e) s') s₁) (notedBy (model prog w) A env fun e s' => R (.error e) s') s)
 (n : Nat) (h : I n s) :
 codeAny (model prog w) A (.compLoop (.ListComp elt [⟨target, iter, ifs, 0⟩] scope pos) 0 it acc env) R s := by
 refine codeAny_loop rfl I (fun n s hI => ?_) n h
 show wpAny _ A ((compTurn (.ListComp elt [⟨target, iter, ifs, 0⟩] scope pos) 0 it acc env).onRaise (fun x => do noteFrame x env; theTreesLotGoes x)) _ _ s
 refine wpAny_noted ?_
 rw [compTurn_list]
 refine wpAny_bind (wpAny_standAt (wpAny_bind (wpAny_mono (turn n s hI) (fun r s₁ h₁ => ?_) fun _ _ h' => h')))
 cases r with
 | none => exact wpAny_pure h₁
 | some v =>
  refine wpAny_bind (wpAny_mono h₁ (fun _ s₁' h₁' => ?_) fun _ _ h' => h')
  refine wpAny_bind (wpAny_mono h₁' (fun _ s₂ h₂ => wpAny_bind (wpAny_mono h₂ (fun ok s₃ h₃ => ?_) fun _ _ h' => h')) fun _ _ h' => h')
  cases ok with
  | false => exact wpAny_pure ⟨rfl, h₃⟩
  | true =>
   exact wpAny_bind (wpAny_bind (wpAny_mono h₃ (fun x s₄ h₄ => wpAny_bind (wpAny_mono h₄ (fun _ s₅ h₅ => wpAny_pure (wpAny_pure ⟨rfl, h₅⟩)) fun _ _ h' => h')) fun _ _ h' => h'))
structure Add (C : Cx) (l le l' : Loc) : Prop where
 run : ∀ (A : Around) (kk fk : PH) (env : Env) (ρ : Rho) (tmp : List (Loc × LV)) (acc v : Value) (s : Shared) (Q : Value → Shared → Prop) (E : Value → Shared → Prop), Sim C kk fk env ρ ((le, .one v) :: (l, .one acc) :: tmp) s →
  (∀ s', Sim C kk fk env ρ ((l', .one acc) :: tmp) s' → Q .none s') → wpAny (model C.prog C.w) A (call (.builtin "list.append") [acc, v]) Q E s
theorem Add.fr {xs : List PV} {p : PV} (h : xs.length ≤ sizeLine) : Add C (.ol xs) (.fr p) (.ol (xs ++ [p])) := .mk fun A kk fk env ρ tmp acc v s Q E S H => S.append h H
inductive GLoop (C : Cx) (k : Nat) (env : Env) (t : Expr) (ifs : List Expr) (elt : Expr) : Nat → Loc → Rho → Loc → Loc → Prop
 | nil {n : Nat} {L : Loc} {ρ : Rho} {acc : Loc} (h : TurnEnd C L) : GLoop C k env t ifs elt n L ρ acc acc
 | skip {n : Nat} {L L' : Loc} {p : PV} {ρ ρ1 : Rho} {acc out : Loc} (h : Turn C t L p L') (ha : As C k env ρ t p ρ1) (ht : TsF C k env ρ1 ifs false) (hr : GLoop C k env t ifs elt n L' ρ1 acc out) : GLoop C k env t ifs elt (n + 1) L ρ acc out
 | keep {n : Nat} {L L' : Loc} {p : PV} {ρ ρ1 : Rho} {le acc acc' out : Loc} (h : Turn C t L p L') (ha : As C k env ρ t p ρ1) (ht : TsF C k env ρ1 ifs true) (he : Ev C k env ρ1 elt le) (hadd : Add C acc le acc') (hr : GLoop C k env t ifs elt n L' ρ1 acc' out) : GLoop C k env t ifs elt (n + 1) L ρ acc out
theorem CLoop.g {t : Expr} {ifs : List Expr} {elt : Expr} {L : Loc} {out : List PV} (h : CLoop C k env t ifs elt L ρ out) : ∀ xs : List PV, xs.length + out.length ≤ sizeLine → ∃ n, GLoop C k env t ifs elt n L ρ (.ol xs) (.ol (xs ++ out)) := by
 induction h with
 | nil h => exact fun xs _ => ⟨0, by rw [List.append_nil]; exact .nil h⟩
 | skip h ha ht hr ih => exact fun xs hz => (ih xs hz).elim fun n q => ⟨n + 1, .skip h ha ht q⟩
 | @keep _ _ _ q _ _ out h ha ht he hr ih =>
  intro xs hz
  rw [List.length_cons] at hz
  obtain ⟨n, r⟩ := ih (xs ++ [q]) (by rw [List.length_append, List.length_singleton]; omega)
  rw [List.append_assoc] at r
  exact ⟨n + 1, .keep h ha ht he (.fr (by omega)) r⟩
theorem GLoop.inv {t : Expr} {ifs : List Expr} {elt : Expr} {n : Nat} {L acc out : Loc} {G : Prop} (hl : GLoop C k env t ifs elt n L ρ acc out) (h1 : TurnEnd C L → acc = out → G)
 (h2 : ∀ m L' p ρ1, n = m + 1 → Turn C t L p L' → As C k env ρ t p ρ1 → TsF C k env ρ1 ifs false → GLoop C k env t ifs elt m L' ρ1 acc out → G)
 (h3 : ∀ m L' p ρ1 le acc', n = m + 1 → Turn C t L p L' → As C k env ρ t p ρ1 → TsF C k env ρ1 ifs true → Ev C k env ρ1 elt le → Add C acc le acc' → GLoop C k env t ifs elt m L' ρ1 acc' out → G) : G := by
 cases hl with
 | nil h => exact h1 h rfl
 | skip h ha ht hr => exact h2 _ _ _ _ rfl h ha ht hr
 | keep h ha ht he hadd hr => exact h3 _ _ _ _ _ _ rfl h ha ht he hadd hr
theorem codeComp {t : Expr} {ifs : List Expr} {elt iter : Expr} {scope : Scope} {pos : Pos} {A : Around} {it acc : Value} {R : Result → Shared → Prop} (RA : Rm A k) (W : Wf fk env) {L acc0 out : Loc} {n : Nat}
 (hl : GLoop C k env t ifs elt n L ρ acc0 out) (S : Sim C kk fk env ρ ((acc0, .one acc) :: (L, .one it) :: tmp) s)
 (H : ∀ s' ρ', Sim C kk fk env ρ' ((out, .one acc) :: tmp) s' → R (.ok .next) s') :
 codeAny (model C.prog C.w) A (.compLoop (.ListComp elt [⟨t, iter, ifs, 0⟩] scope pos) 0 it acc env) R s := by
 refine codeAny_compLoop_any (fun n s' => ∃ L ρ acc1, GLoop C k env t ifs elt n L ρ acc1 out ∧ Sim C kk fk env ρ ((L, .one it) :: (acc1, .one acc) :: tmp) s') ?_ n ⟨L, ρ, acc0, hl, S.turn2⟩
 exact fun n s' h => x31 h fun L ρ acc1 hl S => hl.inv
  (fun h e => TurnEnd.flip (fun s1 q => q) h RA.handled S fun s1 S1 => H s1 _ (e ▸ S1))
  (fun m L' p ρ1 e h ha ht hr => Turn.flip (fun v s1 q => q) h RA.handled S fun v s1 S1 => ha.run A kk fk _ v s1 _ _ RA W S1 fun s2 S2 => ht.run A kk fk _ s2 _ _ RA S2 fun s3 S3 => by
   rw [if_neg (by decide)]
   exact ⟨m, e ▸ Nat.lt_succ_self _, _, _, _, hr, S3⟩)
  (fun m L' p ρ1 le acc' e h ha ht he hadd hr => Turn.flip (fun v s1 q => q) h RA.handled S fun v s1 S1 => ha.run A kk fk _ v s1 _ _ RA W S1 fun s2 S2 => ht.run A kk fk _ s2 _ _ RA S2 fun s3 S3 => by
   rw [if_pos rfl]
   exact he.run A kk fk _ s3 _ _ RA S3 fun w s4 S4 => hadd.run _ _ _ _ _ _ _ _ _ _ _ S4.turn3 fun s5 S5 => ⟨m, e ▸ Nat.lt_succ_self _, _, _, _, hr, S5.turn2⟩)
end
section
variable {C : Cx} {k : Nat} {kk fk : PH} {env : Env} {ρ ρ' : Rho} {tmp : List (Loc × LV)} {s : Shared}
theorem Sim.letGo {l : Loc} {v : LV} {a : Addr} (S : Sim C kk fk env ρ ((l, v) :: (.nsp, .one (.ref a)) :: tmp) s) {h' : Heap} (hs : Heap.SameBut a s.heap h') : Sim C kk fk env ρ ((l, v) :: tmp) { s with heap := h' } := by
 refine x40 S.turn2 fun kp m own tow D => ?_
 refine x22 D.tmps.inv fun ow tow2 z1 r1 r2 => ?_; subst z1
 cases r1 with
 | nsp hn => exact ⟨kp, m, own, tow2, D.drop (h' := h') (tk := s.toks) fun b o hb e => (hs.2 b (by simpa using hb)).trans e⟩
theorem Sim.nspNs {a : Addr} : ∀ {tmp' : List (Loc × LV)}, Sim C kk fk env ρ (tmp' ++ (.nsp, .one (.ref a)) :: tmp) s → ∃ m, s.heap.Ns a m := fun S => by
 refine x40 S fun kp m own tow D => ?_; clear S
 obtain ⟨ow, r⟩ := D.tmps.mem
 cases r with
 | nsp hn => exact ⟨_, hn⟩
theorem Sim.letGo0 {a : Addr} (S : Sim C kk fk env ρ ((.nsp, .one (.ref a)) :: tmp) s) {h' : Heap} (hs : Heap.SameBut a s.heap h') : Sim C kk fk env ρ tmp { s with heap := h' } := by
 refine x40 S fun kp m own tow D => ?_; clear S
 refine x22 D.tmps.inv fun ow tow2 z1 r1 r2 => ?_; subst z1
 cases r1 with
 | nsp hn => exact ⟨kp, m, own, tow2, D.drop (h' := h') (tk := s.toks) fun b o hb e => (hs.2 b (by simpa using hb)).trans e⟩
theorem newEnvAround {A : Around} {scope : Scope} {cl : List (Str × Addr)} {Q : Env → Shared → Prop} {E : Value → Shared → Prop}
 (h : Q { scope, locals := s.heap.objs.size, globals := env.globals, cells := cellsFrom (s.heap.objs.size + 1) scope.names cl, qual := env.qual, func := none, code := env.code, frame := env.frame, builtins := env.builtins }
  { s with heap := pushCells (s.heap.push { cls := .type "dict", data := .dict #[] }) scope.names }) :
 wpAny (model C.prog C.w) A (newFunctionEnv scope env.globals cl [] env.qual none .none (some env)) Q E s := by
 simp only [newFunctionEnv, Option.isSome_some, if_true]
 refine wpAny_bind (wpAny_alloc ?_)
 refine wpAny_bind (wpAny_layCells _ (fun name kind cells => by cases hkc : kind == NameKind.cell <;> simp [hkc]) _ _ _ _ ?_)
 rw [show ({ s with heap := s.heap.push { cls := .type "dict", data := .dict #[] } } : Shared).heap.objs.size = s.heap.objs.size + 1 from Heap.size_push ..]
 simp only [List.forIn_nil]
 exact wpAny_bind (wpAny_pure (wpAny_pure h))
theorem compRun {t : Expr} {ifs : List Expr} {elt iter : Expr} {scope : Scope} {pos : Pos} {A : Around} {it : Value} {L out : Loc} {RR : Value → Addr → Result → Shared → Prop} {E : Value → Shared → Prop} (RA : Rm A k)
 (S : Sim C kk fk env ρ ((L, .one it) :: tmp) s) (hok : compOk scope env = true) (hself : Self C L)
 (hl : ∀ Ca, ∃ n, GLoop C k (compEnvL scope Ca env) t ifs elt n L (capt scope env ρ) (.ol []) out)
 (H : ∀ acc Ca s', Sim C kk fk env ρ ((out, .one acc) :: (.nsp, .one (.ref Ca)) :: tmp) s' → RR acc Ca (.ok .next) s') :
 wpAny (model C.prog C.w) A (newList []) (fun acc s₃ => wpAny (model C.prog C.w) A (newFunctionEnv scope env.globals (closeOver env scope.names []) [] env.qual none .none (some env)) (fun cenv s₄ =>
  codeAny (model C.prog C.w) A (.compStart (.ListComp elt [⟨t, iter, ifs, 0⟩] scope pos) 0 it acc { cenv with scope := relabel scope env }) (RR acc cenv.locals) s₄) E s₃) E s := by
 refine x40 S fun kp m own tow D => ?_; clear S
 refine x22 D.tmps.inv fun wr tow' z1 r1 r2 => ?_; subst z1
 have I := D.enterComp hok
 refine wpAny_newObj_type (newEnvAround ?_)
 have e1 : (s.heap.push { cls := .type "list", dict := none, data := .seq ([] : List Value).toArray }).objs.size = s.heap.objs.size + 1 := Heap.size_push ..
 dsimp only
 rw [e1]
 have fin : ∀ s' ρ', Sim C kp (fun a => if a ∈ wr then none else besides kp s.heap a) (compEnvL scope (s.heap.objs.size + 1) env) ρ' [(out, .one (.ref s.heap.objs.size))] s' → RR (.ref s.heap.objs.size) (s.heap.objs.size + 1) (.ok .next) s' := fun s' ρ' S' => by
  have hwr : ∀ a ∈ wr, a ∈ (wr :: tow').flatten := fun a h => by rw [List.flatten_cons]; exact List.mem_append_left _ h
  have htn := D.towN
  rw [List.flatten_cons] at htn
  refine x02 (List.nodup_append.mp htn) fun n1 n2 n3 => ?_
  have D0 : SimD C kk fk env ρ tmp s kp m own tow' := { D with
   tmps := r2
   free := fun a h => D.free a (h.imp id fun e => by rw [List.flatten_cons]; exact List.mem_append_right _ e)
   apartT := fun x a h e => D.apartT x a h (by rw [List.flatten_cons]; exact List.mem_append_right _ e)
   towN := n2 }
  refine H _ _ _ (D0.backW (env' := compEnvL scope (s.heap.objs.size + 1) env) (wr := wr) (fi := fun a => if a ∈ wr then none else besides kp s.heap a) (fun a ha => ?_) (fun a o e hk hw => by simp [hw, besides, hk, e]) ?_ S')
  · refine x03 (D.free a (.inr (hwr a ha))) fun f1 f2 f3 f4 => ?_
    exact ⟨f2, f1, f3, f4, fun x hx => D.apartT x a hx (hwr a ha), fun h => n3 a ha a h rfl⟩
  · show s.heap.get? (s.heap.objs.size + 1) = none
    cases e : s.heap.get? (s.heap.objs.size + 1) with
    | none => rfl
    | some o => exact absurd (Heap.lt_size e) (Nat.not_lt.mpr (Nat.le_succ _))
 have WF : Wf (fun a => if a ∈ wr then none else besides kp s.heap a) (compEnvL scope (s.heap.objs.size + 1) env) := by
  have dead : ∀ b, s.heap.objs.size ≤ b → (if b ∈ wr then none else besides kp s.heap b) = none := fun b hb => by
   have e : s.heap.get? b = none := by
    cases e : s.heap.get? b with
    | none => rfl
    | some o => exact absurd (Heap.lt_size e) (Nat.not_lt.mpr hb)
   split
   · rfl
   · unfold besides; cases kp b <;> simp [e]
  exact ⟨dead _ (Nat.le_succ _), fun y c e hlt => dead c (Nat.le_trans (Nat.le_succ _) (Nat.le_of_lt hlt))⟩
 obtain ⟨n, hl'⟩ := hl (s.heap.objs.size + 1)
 have loop := codeComp (iter := iter) (scope := scope) (pos := pos) (R := RR (.ref s.heap.objs.size) (s.heap.objs.size + 1)) RA WF hl' I fin
 exact codeAny_compStart_list loop (hself A _ _ _ _ [] [(.ol [], .one (.ref s.heap.objs.size))] it _ _ _ RA.handled I loop)
structure CompScope (scope : Scope) (env : Env) : Prop where
 ok : compOk scope env = true
theorem CompScope.kind {scope : Scope} (h : compOk scope env = true) : scope.kind = .function := by
 simp only [compOk, Bool.and_eq_true, beq_iff_eq] at h; exact h.1
theorem CompScope.names {scope : Scope} (h : compOk scope env = true) : ∀ y ∈ scope.names, y.2 = .local → scope.names.lookup y.1 = some .local := by
 simp only [compOk, Bool.and_eq_true, List.all_eq_true, beq_iff_eq] at h
 exact fun y hy e => e ▸ (h.2 y hy).1
theorem CompScope.clos {scope : Scope} (h : compOk scope env = true) : closureFor scope env = pure (closeOver env scope.names []) := by
 simp only [compOk, Bool.and_eq_true, List.all_eq_true, Bool.or_eq_true, bne_iff_ne, ne_eq, beq_iff_eq] at h
 exact closureFor_eq fun y hy e => (h.2 y hy).2.resolve_left fun q => q e
theorem Ev.compG {t : Expr} {ifs : List Expr} {elt iter : Expr} {scope : Scope} {pos : Pos} {L out : Loc} (hi : EvIt C k env ρ iter L) (hok : compOk scope env = true) (hself : Self C L)
 (hl : ∀ Ca, ∃ n, GLoop C k (compEnvL scope Ca env) t ifs elt n L (capt scope env ρ) (.ol []) out)
 (hs : ∀ x, foldedSetIterable iter env x = pure x := by intro _; rfl) : Ev C k env ρ (.ListComp elt [⟨t, iter, ifs, 0⟩] scope pos) out := .mk fun A kk fk tmp s Q E R S H => by
 rw [eval_ListComp]
 refine wpAny_comprehension_free (use := none) rfl hs (CompScope.clos hok) (CompScope.kind hok) (CompScope.names hok) (wpAny_mono (hi.run A kk fk tmp s (fun it s2 => wpAny (model C.prog C.w) A (newList []) _ E s2) E R S fun it s2 S2 => ?_) (fun _ _ q => q) fun _ _ e => e)
 exact compRun (RR := fun acc Ca => compPost (model C.prog C.w) A E none Q acc Ca) R S2 hok hself hl fun acc Ca s' S' => by
  obtain ⟨m, hn⟩ := Sim.nspNs (tmp' := [(out, .one acc)]) S'
  exact ⟨m, hn, fun h' hs' => H acc _ (S'.letGo hs')⟩
theorem Ev.comp {t : Expr} {ifs : List Expr} {elt iter : Expr} {scope : Scope} {pos : Pos} {L : Loc} {out : List PV} (hi : EvIt C k env ρ iter L) (hok : compOk scope env = true) (hself : Self C L)
 (hl : ∀ Ca, CLoop C k (compEnvL scope Ca env) t ifs elt L (capt scope env ρ) out) (hsz : out.length ≤ sizeLine)
 (hs : ∀ x, foldedSetIterable iter env x = pure x := by intro _; rfl) : Ev C k env ρ (.ListComp elt [⟨t, iter, ifs, 0⟩] scope pos) (.ol out) :=
 .compG hi hok hself (fun Ca => (hl Ca).g [] (by simpa using hsz)) hs
theorem Ex.assignCompG {y : Str} {py : Pos} {t : Expr} {ifs : List Expr} {elt iter : Expr} {scope : Scope} {pos spos : Pos} {L out : Loc} (hi : EvIt C k env ρ iter L) (hok : compOk scope env = true) (hself : Self C L)
 (hl : ∀ Ca, ∃ n, GLoop C k (compEnvL scope Ca env) t ifs elt n L (capt scope env ρ) (.ol []) out) (hy : Stores env y)
 (hsw : swapsWith (.ListComp elt [⟨t, iter, ifs, 0⟩] scope pos) (some (.Name y py)) spos.line env = pure true := by rfl)
 (hs : ∀ x, foldedSetIterable iter env x = pure x := by intro _; rfl) : Ex C k env ρ (.Assign [.Name y py] (.ListComp elt [⟨t, iter, ifs, 0⟩] scope pos) spos) .next (upd ρ y out) := .mk fun A kk fk tmp s Q E R W S H => by
 rw [exec_Assign_Name_used _ _ _ _ hsw]
 refine wpAny_bind (wpAny_standAt (wpAny_bind ?_))
 show wpAny _ A (do let _ ← comprehension (.ListComp elt [⟨t, iter, ifs, 0⟩] scope pos) scope env _ (newList []) false (eval iter env) (some (PySem.assign (PySem.Expr.Name y py) env))) _ _ s
 refine wpAny_bind (wpAny_mono (wpAny_comprehension_free (use := some (PySem.assign (PySem.Expr.Name y py) env)) (Q := fun _ s' => Q Flow.next s') rfl hs (CompScope.clos hok) (CompScope.kind hok) (CompScope.names hok)
  (wpAny_mono (hi.run A kk fk tmp s (fun it s2 => wpAny (model C.prog C.w) A (newList []) _ E s2) E R S fun it s2 S2 => ?_) (fun _ _ q => q) fun _ _ e => e)) (fun _ s' hq => wpAny_pure (wpAny_pure hq)) fun _ _ e => e)
 exact compRun (RR := fun acc Ca => compPost (model C.prog C.w) A E (some (PySem.assign (PySem.Expr.Name y py) env)) (fun _ s' => Q Flow.next s') acc Ca) R S2 hok hself hl fun acc Ca s' S' => by
  show wpAny _ A (PySem.assign (.Name y py) env acc) _ _ _
  refine wpAny_assign_Name (S'.store W hy fun s'' S'' => ?_)
  obtain ⟨m, hn⟩ := Sim.nspNs (tmp' := []) S''
  exact ⟨m, hn, fun h' hs' => H _ (S''.letGo0 hs')⟩
theorem Ex.assignComp {y : Str} {py : Pos} {t : Expr} {ifs : List Expr} {elt iter : Expr} {scope : Scope} {pos spos : Pos} {L : Loc} {out : List PV} (hi : EvIt C k env ρ iter L) (hok : compOk scope env = true) (hself : Self C L)
 (hl : ∀ Ca, CLoop C k (compEnvL scope Ca env) t ifs elt L (capt scope env ρ) out) (hsz : out.length ≤ sizeLine) (hy : Stores env y)
 (hsw : swapsWith (.ListComp elt [⟨t, iter, ifs, 0⟩] scope pos) (some (.Name y py)) spos.line env = pure true := by rfl)
 (hs : ∀ x, foldedSetIterable iter env x = pure x := by intro _; rfl) : Ex C k env ρ (.Assign [.Name y py] (.ListComp elt [⟨t, iter, ifs, 0⟩] scope pos) spos) .next (upd ρ y (.ol out)) :=
 .assignCompG hi hok hself (fun Ca => (hl Ca).g [] (by simpa using hsz)) hy hsw hs
end
noncomputable def frz : Loc → Option Loc
 | .fr p => some (.fr p)
 | .ol xs => some (.fr (.lst xs))
 | .oa _ xs => some (.fr (.lst xs))
 | .ins _ K ns ps => some (.fr (.inst K ns ps))
 | .hd _ K f xs => some (.fr (.inst K [f] [.lst xs]))
 | .od H ks ps => some (.fr (.dct H ks ps))
 | .oll xss => some (.fr (.lst (xss.map .lst)))
 | _ => none
noncomputable def snapR (ρ : Rho) : Rho := fun x => (ρ x).bind frz
noncomputable def flatP : PV → Bool
 | .none | .bool _ | .int _ | .str _ | .con _ => true
 | _ => false
noncomputable def flatT : PV → Bool
 | .tup xs => xs.all flatP
 | p => flatP p
noncomputable def flatL : Loc → Bool
 | .fr p => flatP p
 | .ol xs => xs.all flatT
 | _ => false
section
variable {C : Cx} {k : Nat} {kk fk : PH} {env : Env} {ρ ρ' : Rho} {tmp : List (Loc × LV)} {s : Shared}
theorem Rp.flat {kp kp2 : PH} {p : PV} {v : Value} (h : Rp kp p v) (hf : flatP p = true) : Rp kp2 p v := by
 cases h <;> first | exact .none | exact .bool _ | exact .int _ _ | exact .str _ _ | exact .con _ | exact ft hf
theorem Rps.flat {kp kp2 : PH} {ps : List PV} {vs : List Value} (x : Rps kp ps vs) : ps.all flatP = true → Rps kp2 ps vs :=
 Rps.ind (P := fun ps vs => ps.all flatP = true → Rps kp2 ps vs) (fun _ => .nil) (fun h _ ih hf => by
  rw [List.all_cons, Bool.and_eq_true] at hf
  exact .cons (h.flat hf.1) (ih hf.2)) x
theorem LLs.frz {kp KP : PH} {h : Heap} {xss : List (List PV)} {bs : List Addr} (x : LLs kp h xss bs) (hle : PH.le kp KP) : (∀ b ∈ bs, ∀ o, h.get? b = some o → KP b = some o) → Rps KP (xss.map .lst) (bs.map .ref) := by
 induction x with
 | nil => exact fun _ => .nil
 | cons hl hs r ih =>
  intro hin
  obtain ⟨n, ho⟩ := hl
  exact .cons (.lst (hin _ (.head _) _ ho) (hs.mono hle)) (ih fun b hb => hin b (.tail _ hb))
theorem frz_spec {kp KP : PH} {h : Heap} {l l' : Loc} {v : LV} {ow : List Addr} (r : RpL C kp h l v ow) (e : frz l = some l') (hle : PH.le kp KP) (hin : ∀ a ∈ ow, ∀ o, h.get? a = some o → KP a = some o) :
 RpL C KP h l' v [] := by
 induction r with
 | many => exact no e
 | fr hp => obtain rfl := si e; exact .fr (hp.mono hle)
 | ol hl hs =>
  obtain rfl := si e
  obtain ⟨n, ho⟩ := hl
  exact .fr (.lst (hin _ (by simp) _ ho) (hs.mono hle))
 | oa hl hs =>
  obtain rfl := si e
  obtain ⟨n, ho⟩ := hl
  exact .fr (.lst (hin _ (by simp) _ ho) (hs.mono hle))
 | od ha hsm hd hs => obtain rfl := si e; exact .fr (.dct (hin _ (by simp) _ ha) hsm hd (hs.mono hle))
 | oll hl hv hb hne =>
  obtain rfl := si e
  obtain ⟨n, ho⟩ := hl
  exact .fr (.lst (hin _ (by simp) _ ho) (hv ▸ hb.frz hle fun b h => hin b (.tail _ h)))
 | itr => exact no e
 | itt => exact no e
 | nsp => exact no e
 | hz => exact no e
 | ins hq ha hd hs hn hne =>
  obtain rfl := si e
  refine x34 hd fun o es n ho hdd hk hf hz => ?_; clear hd
  exact .fr (.inst (hin _ (by simp) _ ha) (hin _ (by simp) _ ho) hdd hk (hs.mono hle) hn hf)
 | @hd _ _ f xs a dx b vs hq ha hd hl hs hne =>
  obtain rfl := si e
  refine x34 hd fun o es n ho hdd hk hf hz => ?_; clear hd
  obtain ⟨n2, ho2⟩ := hl
  refine .fr (.inst (vs := [.ref b]) (hin _ (by simp) _ ha) (hin _ (by simp) _ ho) hdd hk (.cons (.lst (hin _ (by simp) _ ho2) (hs.mono hle)) .nil) rfl fun x => ?_)
  rw [hf x]
  by_cases q : x = f
  · subst q; simp [List.lookup]
  · have : (x == f) = false := by simpa using q
    simp [List.lookup, q, this]
theorem SimD.pushOwn {kp : PH} {m : Str → Option Value} {own : Str → List Addr} {tow : List (List Addr)} (D : SimD C kk fk env ρ tmp s kp m own tow) {h' : Heap} {tk : Nat} {l : Loc} {v : LV} {ow : List Addr}
 (hk : ∀ b o, s.heap.get? b = some o → h'.get? b = some o) (r : RpL C kp h' l v ow) (hn : ow.Nodup) (hnew : ∀ a ∈ ow, s.heap.get? a = none) :
 SimD C kk fk env ρ ((l, v) :: tmp) { s with heap := h', toks := tk } kp m own (ow :: tow) := by
 have G := D.grow (h' := h') (tk := tk) hk
 have nw : ∀ a ∈ ow, ∀ (f : PH), (∀ a o, f a = some o → s.heap.get? a = some o) → f a = none := fun a ha f hf => by
  cases e : f a with
  | none => rfl
  | some o' => have := hf _ _ e; rw [hnew a ha] at this; exact no this
 have hold : ∀ a, ((∃ x, a ∈ own x) ∨ a ∈ tow.flatten) → a ∉ ow := fun a h e => by
  obtain ⟨o1, e1⟩ := D.live h
  rw [hnew a e] at e1; cases e1
 exact { G with
  tmps := .cons r G.tmps
  free := fun a h => by
   by_cases q : a ∈ ow
   · refine ⟨nw a q kp D.kept, nw a q fk D.fkept, fun e => ?_, fun y c e e2 => ?_⟩
     · obtain ⟨o, es, n, ho, _⟩ := D.ns
       rw [← e, hnew a q] at ho; cases ho
     · obtain ⟨⟨w, o, ho, _⟩, _⟩ := D.cells y c e
       rw [e2, hnew a q] at ho; cases ho
   · exact G.free a (h.imp id fun e => by rw [List.flatten_cons, List.mem_append] at e; exact e.resolve_left q)
  apartT := fun x a h e => by
   rw [List.flatten_cons, List.mem_append] at e
   rcases e with e | e
   · exact hold a (.inl ⟨x, h⟩) e
   · exact G.apartT x a h e
  towN := by
   rw [List.flatten_cons]
   exact List.nodup_append.mpr ⟨hn, G.towN, fun a ha b hb q => hold b (.inr hb) (q ▸ ha)⟩ }
theorem LLs.lists {kp : PH} {h : Heap} {xss : List (List PV)} {bs : List Addr} (x : LLs kp h xss bs) : ∀ b ∈ bs, ∃ ws, h.PlainList b ws := by
 induction x with
 | nil => exact allN
 | cons hl hs r ih => exact allC ⟨_, hl⟩ ih
def NoTup (h : Heap) (a : Addr) : Prop := ∃ o, h.get? a = some o ∧ (o.cls = .type "list" ∨ ∀ vs n, o.data ≠ .seq vs n)
theorem NoTup.list {h : Heap} {a : Addr} {vs : Array Value} (x : h.PlainList a vs) : NoTup h a := x.elim fun _ e => ⟨_, e, .inl rfl⟩
theorem NoTup.ind {h : Heap} {a : Addr} {m : Str → Option Value} {z : Nat} (x : InD h a m z) : NoTup h a := by
 refine x32 x fun o es n ho hd _ => ?_; clear x
 exact ⟨o, ho, .inr fun vs n q => by rw [hd] at q; cases q⟩
theorem NoTup.inst {h : Heap} {a K dx : Addr} (x : h.get? a = some (W.instObj K dx)) : NoTup h a := ⟨_, x, .inr fun vs n q => by cases q⟩
theorem frz_noTup {kp : PH} {h : Heap} {l l' : Loc} {v : LV} {ow : List Addr} (r : RpL C kp h l v ow) (e : frz l = some l') : ∀ a ∈ ow, NoTup h a := by
 induction r with
 | many => exact no e
 | fr hp => exact allN
 | ol hl hs => exact allC (.list hl) allN
 | oa hl hs => exact allC (.list hl) allN
 | ins hq ha hd hs hn hne => exact allC (.inst ha) (allC (.ind hd) allN)
 | hd hq ha hd hl hs hne => exact allC (.inst ha) (allC (.ind hd) (allC (.list hl) allN))
 | od ha hsm hd hs =>
  obtain ⟨_, _, es, n, h3, _⟩ := hd
  exact allC ⟨_, ha, .inr fun vs n q => by rw [h3] at q; cases q⟩ allN
 | oll hl hv hb hne => exact allC (.list hl) fun b h => (hb.lists b h).elim fun _ x => .list x
 | itr => exact no e
 | itt => exact no e
 | nsp => exact no e
 | hz => exact no e
theorem Rps.mapOn {kp kp2 : PH} {P : PV → Bool} (hP : ∀ p v, P p = true → Rp kp p v → Rp kp2 p v) {ps : List PV} {vs : List Value} (x : Rps kp ps vs) : ps.all P = true → Rps kp2 ps vs :=
 Rps.ind (P := fun ps vs => ps.all P = true → Rps kp2 ps vs) (fun _ => .nil) (fun h _ ih hf => by
  rw [List.all_cons, Bool.and_eq_true] at hf
  exact .cons (hP _ _ hf.1 h) (ih hf.2)) x
theorem Rp.move {kp kp2 : PH} {p : PV} {v : Value} (r : Rp kp p v) (H : ∀ t o vs n, kp t = some o → o.cls = .type "tuple" → o.data = .seq vs n → kp2 t = some o) (hf : flatT p = true) : Rp kp2 p v := by
 cases r with
 | @tup xs t o vs n ht hc hd hs => exact .tup (H t o _ _ ht hc hd) hc hd (hs.flat hf)
 | _ => first | exact .none | exact .bool _ | exact .int _ _ | exact .str _ _ | exact .con _ | exact ft hf
theorem RpL.move {kp kp2 : PH} {h : Heap} {l : Loc} {v : LV} {ow : List Addr} (r : RpL C kp h l v ow) (tup : ∀ p v, flatT p = true → Rp kp p v → Rp kp2 p v) (hfl : flatL l = true) : RpL C kp2 h l v ow := by
 induction r with
 | fr hp => exact .fr (hp.flat hfl)
 | ol hl hs => exact .ol hl (Rps.mapOn tup hs hfl)
 | _ => exact ft hfl
open Classical in
theorem SimD.snap {kp : PH} {m : Str → Option Value} {own : Str → List Addr} {tow : List (List Addr)} (D : SimD C kk fk env ρ tmp s kp m own tow) :
 ∃ KP, Sim C KP (besides KP s.heap) env (snapR ρ) [] s ∧ ∀ l v s', flatL l = true → Sim C KP (besides KP s.heap) env (snapR ρ) [(l, .one v)] s' → Sim C kk fk env ρ ((l, .one v) :: tmp) s' := by
 let P : Addr → Prop := fun a => ∃ x, a ∈ own x ∧ (snapR ρ x).isSome = true
 let KP : PH := fun a => if P a then s.heap.get? a else kp a
 have K1 : ∀ a, P a → KP a = s.heap.get? a := fun a h => if_pos h
 have K0 : ∀ a, ¬ P a → KP a = kp a := fun a h => if_neg h
 have hle : PH.le kp KP := fun a o e => by
  by_cases hP : P a
  · rw [K1 a hP]; exact D.kept a o e
  · rw [K0 a hP]; exact e
 have keptK : ∀ a o, KP a = some o → s.heap.get? a = some o := fun a o e => by
  by_cases hP : P a
  · rwa [K1 a hP] at e
  · rw [K0 a hP] at e; exact D.kept a o e
 have off : ∀ a, (∀ x, a ∉ own x) → kp a = none → KP a = none := fun a h e => (K0 a fun ⟨x, hx, _⟩ => h x hx).trans e
 have noT : ∀ t o vs n, P t → s.heap.get? t = some o → o.cls = .type "tuple" → o.data = .seq vs n → False := fun t o vs n hP ho hc hd => by
  obtain ⟨x, hx, hsn⟩ := hP
  obtain ⟨l', hl'⟩ := Option.isSome_iff_exists.mp hsn
  unfold snapR at hl'
  cases hr : ρ x with
  | none => rw [hr] at hl'; exact no hl'
  | some l0 =>
   rw [hr] at hl'
   obtain ⟨w, -, rx⟩ := D.vars x l0 hr
   obtain ⟨o3, h3, h4⟩ := frz_noTup rx hl' t hx
   rw [si (h3.symm.trans ho)] at h4
   rcases h4 with h4 | h4
   · rw [hc] at h4; exact absurd h4 (by decide)
   · exact h4 _ _ hd
 have bes : ∀ (f : PH) a o, besides f s.heap a = some o → f a = none ∧ s.heap.get? a = some o := fun f a o e => by
  unfold besides at e
  cases q : f a with
  | none => rw [q] at e; exact ⟨rfl, e⟩
  | some o' => rw [q] at e; exact no e
 have besI : ∀ (f : PH) a, f a = none → besides f s.heap a = s.heap.get? a := fun f a e => by unfold besides; rw [e]
 have I : Sim C KP (besides KP s.heap) env (snapR ρ) [] s := ⟨KP, m, fun _ => [], [], {
  rest := D.rest
  base := fun a o e => hle _ _ (D.le _ _ (D.base a o e))
  le := fun _ _ e => e
  kept := keptK
  fkept := fun a o e => (bes KP a o e).2
  kf := fun a o e => (bes KP a o e).1
  ns := D.ns
  nl := off _ (fun x hx => (D.free _ (.inl ⟨x, hx⟩)).2.2.1 rfl) D.nl
  vars := fun x l' e => by
   have e0 := e
   unfold snapR at e
   cases hr : ρ x with
   | none => rw [hr] at e; exact no e
   | some l0 =>
    rw [hr] at e
    refine x11 (D.vars x l0 hr) fun v hv r => ?_
    exact ⟨v, hv, frz_spec r e hle fun a ha o q => (K1 a ⟨x, ha, by rw [e0]; rfl⟩).trans q⟩
  noVar := fun _ _ => rfl
  tmps := .nil
  free := fun a h => by simp at h
  apart := fun _ _ _ h => by simp at h
  apartT := fun _ _ h => by simp at h
  towN := by simp
  cells := D.cells
  wcell := ⟨fun x c e hw => off c (fun y hy => (D.free c (.inl ⟨y, hy⟩)).2.2.2 x c e rfl) (D.wcell.1 x c e hw), D.wcell.2⟩
  globals := D.globals
  builtins := D.builtins
  kind := D.kind }⟩
 refine ⟨KP, I, fun l v s' hfl S' => D.back (env' := env) (ρ' := fun _ => none) ?_⟩
 refine x40 S' fun kp' m' own' tow' D' => ?_; clear S'
 refine x22 D'.tmps.inv fun ow tow1 z1 r1 r2 => ?_; subst z1
 let kp2 : PH := fun a => match s.heap.get? a with | none => kp' a | some _ => kp a
 have old : ∀ a o, s.heap.get? a = some o → kp2 a = kp a := fun a o e => by simp only [kp2, e]
 have new : ∀ a, s.heap.get? a = none → kp2 a = kp' a := fun a e => by simp only [kp2, e]
 have keeps : ∀ b o, s.heap.get? b = some o → s'.heap.get? b = some o := fun b o e => by
  cases q : KP b with
  | none => exact D'.fkept b o ((besI KP b q).trans e)
  | some o' => exact D'.kept b o (D'.le b o (q.trans ((keptK b o' q).symm.trans e)))
 have hb : ∀ b ∈ ow, s.heap.get? b = none := fun b hm => by
  refine x03 (D'.free b (.inr (by rw [List.flatten_cons]; exact List.mem_append_left _ hm))) fun q1 q2 _ _ => ?_
  cases e : s.heap.get? b with
  | none => rfl
  | some o =>
   cases q : KP b with
   | none => rw [besI KP b q, e] at q2; cases q2
   | some o' => rw [D'.le b o' q] at q1; cases q1
 have tup : ∀ p v, flatT p = true → Rp kp' p v → Rp kp2 p v := fun p v hf r => r.move (fun t o vs n ht hc hd => by
  cases e : s.heap.get? t with
  | none => rw [new t e]; exact ht
  | some o' =>
   rw [old t o' e]
   cases q : KP t with
   | none => exact no ((D'.kf t o' ((besI KP t q).trans e)).symm.trans ht)
   | some o2 =>
    have e2 := (D'.le t o2 q).symm.trans ht
    by_cases hP : P t
    · exact (noT t o vs n hP ((keptK t o2 q).trans e2) hc hd).elim
    · exact (K0 t hP).symm.trans (q.trans e2)) hf
 have res : RpL C kp2 s'.heap l (.one v) ow := r1.move tup hfl
 exact ⟨kp2, m', fun _ => [], [ow], {
  rest := D'.rest
  base := fun a o e => D.le _ _ (D.base a o e)
  le := fun a o e => (old a o (D.kept a o e)).trans e
  kept := fun a o e => by
   cases q : s.heap.get? a with
   | none => rw [new a q] at e; exact D'.kept a o e
   | some o' => rw [old a o' q] at e; exact keeps a o (D.kept a o e)
  fkept := fun a o e => keeps a o (bes kp a o e).2
  kf := fun a o e => (old a o (bes kp a o e).2).trans (bes kp a o e).1
  ns := D'.ns
  nl := by refine x31 D.ns fun o es n ho _ => ?_; exact (old _ o ho).trans D.nl
  vars := fun x l e => by exact no e
  noVar := fun _ _ => rfl
  tmps := .cons res .nil
  free := fun a h => by
   have ha : a ∈ ow := by simpa using h
   refine x03 (D'.free a (.inr (by rw [List.flatten_cons]; exact List.mem_append_left _ ha))) fun f1 f2 f3 f4 => ?_
   refine ⟨(new a (hb a ha)).trans f1, ?_, f3, f4⟩
   cases q : besides kp s.heap a with
   | none => rfl
   | some o => have := (bes kp a o q).2; rw [hb a ha] at this; exact no this
  apart := fun _ _ _ h => by cases h
  apartT := fun _ _ h => by cases h
  towN := by have := D'.towN; rw [List.flatten_cons] at this; simpa using (List.nodup_append.mp this).1
  cells := D'.cells
  wcell := ⟨fun x c e hw => by obtain ⟨⟨w, o, ho, _⟩, _⟩ := D.cells x c e; exact (old c o ho).trans (D.wcell.1 x c e hw), D'.wcell.2⟩
  globals := D'.globals
  builtins := D'.builtins
  kind := D'.kind }⟩
theorem Ev.snap {e : Expr} {l : Loc} (h : Ev C k env (snapR ρ) e l) (hfl : flatL l = true) : Ev C k env ρ e l := .mk fun A kk fk tmp s Q E R S H => by
 refine x40 S fun kp m own tow D => ?_; clear S
 refine x11 D.snap fun KP I out => ?_
 exact h.run A KP _ [] s Q E R I fun v s' S' => H v s' (out l v s' hfl S')
theorem Sim.freezeVar {x : Str} {l l' : Loc} (S : Sim C kk fk env ρ tmp s) (hx : ρ x = some l) (e : frz l = some l') : Sim C kk fk env (upd ρ x l') tmp s := by
 classical
 refine x40 S fun kp m own tow D => ?_; clear S
 refine x11 (D.vars x l hx) fun v hv r => ?_
 let KP : PH := fun a => if a ∈ own x then s.heap.get? a else kp a
 have hle : PH.le kp KP := fun a o e => by
  by_cases h : a ∈ own x
  · simp only [KP, if_pos h]; exact D.kept a o e
  · simp only [KP, if_neg h]; exact e
 have hin : ∀ a ∈ own x, ∀ o, s.heap.get? a = some o → KP a = some o := fun a ha o e => by simp only [KP, if_pos ha]; exact e
 have off : ∀ a, a ∉ own x → kp a = none → KP a = none := fun a h e => by simp only [KP, if_neg h]; exact e
 refine ⟨KP, m, fun y => if y = x then [] else own y, tow, { D with
  le := fun a o e => hle _ _ (D.le a o e)
  kept := fun a o e => by
   by_cases h : a ∈ own x
   · simpa only [KP, if_pos h] using e
   · simp only [KP, if_neg h] at e; exact D.kept a o e
  kf := fun a o e => off a (fun h => by rw [(D.free a (.inl ⟨x, h⟩)).2.1] at e; cases e) (D.kf a o e)
  nl := off _ (fun h => (D.free _ (.inl ⟨x, h⟩)).2.2.1 rfl) D.nl
  vars := fun y l2 e2 => ?_
  noVar := fun y e2 => ?_
  tmps := D.tmps.mono hle
  free := fun a h => ?_
  apart := fun y z a h1 h2 => ?_
  apartT := fun y a h e2 => ?_
  wcell := ⟨fun y c e2 hw => off c (fun h => (D.free _ (.inl ⟨x, h⟩)).2.2.2 y c e2 rfl) (D.wcell.1 y c e2 hw), D.wcell.2⟩ }⟩
 · unfold upd at e2
   by_cases hy : y = x
   · subst hy
     simp only [if_true, Option.some.injEq] at e2
     subst e2
     refine ⟨v, hv, ?_⟩
     simp only [if_true]
     exact frz_spec r e hle hin
   · simp only [if_neg hy] at e2 ⊢
     refine x11 (D.vars y l2 e2) fun w a b => ?_
     exact ⟨w, a, b.mono hle⟩
 · unfold upd at e2
   by_cases hy : y = x
   · simp [hy]
   · simp only [if_neg hy] at e2 ⊢; exact D.noVar y e2
 · have ha : a ∉ own x := fun hx' => by
    rcases h with ⟨y, hy⟩ | h
    · split at hy
      · cases hy
      · rename_i q; exact q (D.apart y x a hy hx')
    · exact D.apartT x a hx' h
   have h0 : (∃ y, a ∈ own y) ∨ a ∈ tow.flatten := by
    rcases h with ⟨y, hy⟩ | h
    · split at hy
      · cases hy
      · exact .inl ⟨y, hy⟩
    · exact .inr h
   obtain ⟨f1, f2⟩ := D.free a h0
   exact ⟨off a ha f1, f2⟩
 · split at h1
   · cases h1
   · split at h2
     · cases h2
     · exact D.apart y z a h1 h2
 · split at h
   · cases h
   · exact D.apartT y a h e2
theorem Exs.freeze {ss : List Stmt} {o : Out} {x : Str} {l l' : Loc} (hx : ρ x = some l) (e : frz l = some l') (h : Exs C k env (upd ρ x l') ss o ρ') : Exs C k env ρ ss o ρ' := .mk fun A kk fk tmp s Q E R W S H =>
 h.run A kk fk tmp s Q E R W (S.freezeVar hx e) H
end
end Mine
namespace Mine
open PySem PySem.Calls PyProof.Rows PySem.W
noncomputable def clsOk (K : Frag) (Kc : Addr) : Bool :=
 (clsIn K Kc).any (·.hasDict) && plainOver K Kc && findIn K (.ref Kc) "__getattribute__" == some (some (.builtin "object.__getattribute__")) && findIn K (.ref Kc) "__getattr__" == some none &&
  findIn K (.ref Kc) "__setattr__" == some (some (.builtin "object.__setattr__")) && makesIn K Kc
section
variable {C : Cx} {k : Nat} {kk fk : PH} {env : Env} {ρ ρ' : Rho} {tmp : List (Loc × LV)} {s : Shared} {K : Frag} {Kc : Addr}
structure ClsOk (K : Frag) (Kc : Addr) : Prop where
 dict : (clsIn K Kc).any (·.hasDict) = true
 plain : plainOver K Kc = true
 ga : findIn K (.ref Kc) "__getattribute__" = some (some (.builtin "object.__getattribute__"))
 gx : findIn K (.ref Kc) "__getattr__" = some none
 sa : findIn K (.ref Kc) "__setattr__" = some (some (.builtin "object.__setattr__"))
 makes : makesIn K Kc = true
theorem clsOk.of (h : clsOk K Kc = true) : ClsOk K Kc := by
 simp only [clsOk, Bool.and_eq_true, beq_iff_eq] at h
 obtain ⟨⟨⟨⟨⟨a, b⟩, c⟩, d⟩, e⟩, f⟩ := h
 exact ⟨a, b, c, d, e, f⟩
theorem InD.look {h : Heap} {dx : Addr} {m : Str → Option Value} {z : Nat} (x : InD h dx m z) : ∃ od, h.get? dx = some od ∧ ∀ n, lookIn n od = some (m n) := by
 refine x34 x fun o es ep ho hd hk hf _ => ?_; clear x
 refine ⟨o, ho, fun n => ?_⟩
 unfold lookIn
 rw [hd]
 dsimp only
 rw [← hf n]
 unfold nsFind findBy
 have hany : es.toList.any (·.refKey) = false := by
  rw [List.any_eq_false]; intro e he; obtain ⟨n, t, h⟩ := hk e (by simpa using he); simp [DictEntry.refKey, h]
 rw [← Array.find?_toList]
 cases q : es.toList.find? (fun e => e.key.isStr n) with
 | none => simp [q, hany]
 | some e => simp [q]
theorem InD.put {h : Heap} {dx : Addr} {m : Str → Option Value} {z : Nat} (x : InD h dx m z) (name : Str) (hash : Int) (t : Tok) (v : Value) :
 ∃ o es ep, h.get? dx = some o ∧ o.data = .dict es ep ∧ es.any (·.refKey) = false ∧ InD (h.update dx (Obj.putName name hash (.str name t) v)) dx (fun n => if n = name then some v else m n) (z + 1) := by
 refine x34 x fun o es ep ho hd hk hm hz => ?_; clear x
 have hany : es.any (·.refKey) = false := by
  rw [Array.any_eq_false']; intro e he; obtain ⟨n, t, h⟩ := hk e he; simp [DictEntry.refKey, h]
 refine ⟨o, es, ep, ho, hd, hany, ?_⟩
 obtain ⟨c, d, dt, sl⟩ := o
 subst hd
 cases hi : es.findIdx? (·.key.isStr name) with
 | some i =>
  refine ⟨_, _, ep, Heap.get?_update_self _ ho (by simp only [Obj.putName_eq, Obj.putNameByArray, hi]; rfl), by simp only [Obj.putName_eq, Obj.putNameByArray, hi]; rfl, hk.modify _ _, fun x => ?_, ?_⟩
  · show _ = if x = name then some v else m x
    rw [← hm]; exact findBy_modify (fun n v => v.isStr n) Value.isStr_inj es name x v i hi
  · rw [Array.size_modify]; omega
 | none =>
  refine ⟨_, _, ep + 1, Heap.get?_update_self _ ho (by simp only [Obj.putName_eq, Obj.putNameByArray, hi]; rfl), by simp only [Obj.putName_eq, Obj.putNameByArray, hi]; rfl, hk.push _ _ _ _, fun x => ?_, ?_⟩
  · show _ = if x = name then some v else m x
    rw [← hm]
    exact findBy_push (fun n v => v.isStr n) es name x _ _ v (fun y => by
     show (name == y) = decide (y = name)
     by_cases h : y = name
     · subst h; simp
     · have : ¬ name = y := fun e => h e.symm
       simp [h, this]) hi
  · rw [Array.size_push]; omega
theorem instAt {h : Heap} {a dx : Addr} {od : Obj} (ha : h.get? a = some (instObj Kc dx)) (hd : h.get? dx = some od) : InstAt h a (instObj Kc dx) Kc (some od) := ⟨ha, rfl, rfl, hd⟩
theorem takerNone {n : Str} (hn : findIn K (.ref Kc) n = some none) : takerIn K Kc n = some none := by unfold takerIn; rw [hn]; rfl
theorem setAttr_own {A : Around} {a dx : Addr} {m : Str → Option Value} {z : Nat} {n : Str} {v : Value} {Q : Unit → Shared → Prop} {E : Value → Shared → Prop} (X : K.In s.heap) (O : ClsOk K Kc) (hn : findIn K (.ref Kc) n = some none)
 (ha : s.heap.get? a = some (instObj Kc dx)) (hd : InD s.heap dx m z) (hz : z ≤ 100)
 (H : ∀ h' tk, InD h' dx (fun x => if x = n then some v else m x) (z + 1) → Heap.SameBut dx s.heap h' → Q () { s with heap := h', toks := tk }) : wpAny (model C.prog C.w) A (setAttr (.ref a) n v) Q E s := by
 refine x11 hd.look fun od hod hl => ?_
 have I := instAt (Kc := Kc) ha hod
 refine set_plain X I O.sa ?_
 refine osa_open (s := { s with toks := s.toks + 1 }) (K := K) (C := Kc) X I O.plain (takerNone hn) fun b => ?_
 refine x11 (any_some O.dict) fun cd hc hd' => ?_
 refine x33 (hd.put n (PyData.keyHash C.w.params n) (s.toks + 1) v) fun o es ep ho hdd hany hput => ?_
 refine wpAny_bind (wpAny_pure (wpAny_bind (wpAny_bind (wpAny_loadPart ha (wpAny_bind (Looks.here (s := { s with toks := s.toks + 1 }) (looks_clsIn X hc) ?_))))))
 rw [hd']
 refine wpAny_pure (a := some dx) (wpAny_bind (wpAny_pure (wpAny_bind ?_)))
 unfold nsSet
 refine wpAny_bind (wpAny_bind (wpAny_askSetting (wpAny_pure (wpAny_bind (wpAny_mkText (wpAny_bind (wpAny_loadPart ho ?_)))))))
 rw [hdd]
 dsimp only
 rw [aRefKeyMayBeTheName_at, hany, Bool.and_false]
 refine wpAny_updatePart ho ?_
 refine x34 (id hput) fun o2 es2 ep2 ho2 hd2 hk2 hm2 hz2 => ?_
 refine wpAny_bind (wpAny_lookBehind ho2 (by rw [hd2]; exact pastItsLine_dict (by rw [sizeLine_eq]; omega)) ?_)
 exact wpAny_pure (H _ _ hput (Heap.SameBut.update ..))
theorem getAttr_inst {A : Around} {a dx : Addr} {m : Str → Option Value} {z : Nat} {n : Str} {v : Value} {ex : Bool} {Q : Value → Shared → Prop} {E : Value → Shared → Prop} (X : K.In s.heap) (O : ClsOk K Kc) (hn : findIn K (.ref Kc) n = some none)
 (ha : s.heap.get? a = some (instObj Kc dx)) (hd : InD s.heap dx m z) (hv : m n = some v) (hh : handedIn v = true) (H : Q v { s with toks := s.toks + 1 }) : wpAny (model C.prog C.w) A (getAttr (.ref a) n ex) Q E s := by
 refine x11 hd.look fun od hod hl => ?_
 refine x11 (any_some O.dict) fun cd hc hd' => ?_
 refine get_value X (instAt (Kc := Kc) ha hod) O.ga ?_ hh H
 have ho : W.ownOf cd (some od) n = some (some v) := by
  unfold W.ownOf
  rw [hd', if_pos rfl]
  exact (hl n).trans (congrArg some hv)
 unfold findObj
 rw [hc, hn]
 show (W.ownOf cd (some od) n).bind _ = _
 rw [ho]
 rfl
theorem Rp.handed {kp : PH} {p : PV} {v : Value} (h : Rp kp p v) (hp : ∀ w, p ≠ .con w) : handedIn v = true := by
 cases h <;> first | rfl | exact absurd rfl (hp _)
theorem lookup_zip {kp : PH} {ns : List Str} {ps : List PV} {vs : List Value} {n : Str} {p : PV} (x : Rps kp ps vs) : (ns.zip ps).lookup n = some p → ∃ v, (ns.zip vs).lookup n = some v ∧ Rp kp p v :=
 Rps.ind (P := fun ps vs => ∀ ns : List Str, (ns.zip ps).lookup n = some p → ∃ v, (ns.zip vs).lookup n = some v ∧ Rp kp p v) (fun ns h => by rw [List.zip_nil_right] at h; exact no h) (fun {q ps v vs} hp _ ih ns h => by
  cases ns with
  | nil => exact no h
  | cons m ns =>
   rw [List.zip_cons_cons, List.lookup_cons] at h ⊢
   cases e : n == m with
   | true => rw [e] at h; obtain rfl := si h; exact ⟨v, rfl, hp⟩
   | false => rw [e] at h; exact ih ns h) x ns
theorem Ev.attr {e : Expr} {n : Str} {pos : Pos} {ns : List Str} {ps : List PV} {p : PV} (h : Ev C k env ρ e (.fr (.inst Kc ns ps))) (X : K.In C.h₀) (O : ClsOk K Kc) (hn : findIn K (.ref Kc) n = some none) (hp : (ns.zip ps).lookup n = some p)
 (hc : ∀ w, p ≠ .con w := by intro _ h; cases h)
 (he : eval (.Attribute e n pos) env = (do
  let o ← eval e env
  standAt pos.atName
  let r ← holding [o] (getAttr o n true)
  letTemporaryGo e o r
  pure r) := by with_unfolding_all rfl) : Ev C k env ρ (.Attribute e n pos) (.fr p) := .mk fun A kk fk tmp s Q E R S H =>
 Attribute_any_ (h.run A kk fk tmp s _ E R S fun v s1 S1 => by
  refine x40 S1 fun kp m own tow D => ?_; clear S1
  refine x12 D.top fun tow' _ hr D' => ?_
  cases hr with
  | @inst _ _ _ a dx od es z vs ha hd hde hk hs hl hf =>
  refine x11 (lookup_zip hs hp) fun v hv hpv => ?_
  exact getAttr_inst (z := es.size) (X.keeps fun b o e => D.kept _ _ (D.le _ _ (D.base _ _ e))) O hn (D.kept _ _ ha) ⟨od, es, z, D.kept _ _ hd, hde, hk, hf, Nat.le_refl _⟩ hv (hpv.handed hc)
   (H v _ ⟨kp, m, own, _, (D'.grow (h' := s1.heap) (tk := s1.toks + 1) fun _ _ e => e).pushFr hpv⟩)) he
theorem SimD.modVar {kp : PH} {m : Str → Option Value} {own : Str → List Addr} {tow : List (List Addr)} {x : Str} {l l' : Loc} {v : Value} (D : SimD C kk fk env ρ tmp s kp m own tow) (hx : ρ x = some l) (hv : VarAt env s.heap m x v) {h' : Heap} {tk : Nat}
 (hk : ∀ b o, b ∉ own x → s.heap.get? b = some o → h'.get? b = some o) (hr : RpL C kp h' l' (.one v) (own x)) : SimD C kk fk env (upd ρ x l') tmp { s with heap := h', toks := tk } kp m own tow := by
 have hkp : ∀ b o, kp b = some o → h'.get? b = some o := fun b o e => hk b o (fun h => by rw [(D.free b (.inl ⟨x, h⟩)).1] at e; cases e) (D.kept b o e)
 have cellK : ∀ y c, env.cells.lookup y = some c → c ∉ own x := fun y c e h => (D.free c (.inl ⟨x, h⟩)).2.2.2 y c e rfl
 have keepR : ∀ {l : Loc} {v : LV} {ow : List Addr}, RpL C kp s.heap l v ow → (∀ a ∈ ow, a ∉ own x) → RpL C kp h' l v ow := fun r ho => r.keepsOn fun b o hb e => by
  rcases hb with hb | ⟨o', hb⟩
  · exact hk b o (ho b hb) e
  · have := hkp b o' hb
    have e2 := D.kept b o' hb
    rw [e] at e2; obtain rfl := si e2; exact this
 exact { D with
  rest := by refine x20 D.rest fun h t e => ?_; exact ⟨h', tk, by rw [e]⟩
  kept := hkp
  fkept := fun b o e => hk b o (fun h => by rw [(D.free b (.inl ⟨x, h⟩)).2.1] at e; cases e) (D.fkept b o e)
  ns := D.ns.at' fun o e => hk _ o (fun h => (D.free _ (.inl ⟨x, h⟩)).2.2.1 rfl) e
  vars := fun y l2 e2 => by
   have varK : ∀ {y : Str} {w : Value}, VarAt env s.heap m y w → VarAt env h' m y w := fun p => p.imp id fun ⟨a, c, b, o, e1, e2⟩ => ⟨a, c, b, o, hk c o (cellK _ c b) e1, e2⟩
   unfold upd at e2
   by_cases hy : y = x
   · subst hy
     simp only [if_true, Option.some.injEq] at e2
     subst e2
     exact ⟨v, varK hv, hr⟩
   · simp only [if_neg hy] at e2
     refine x11 (D.vars y l2 e2) fun w p q => ?_
     exact ⟨w, varK p, keepR q fun a ha h => hy (D.apart y x a ha h)⟩
  noVar := fun y e => by
   unfold upd at e
   by_cases hy : y = x
   · simp [hy] at e
   · simp only [if_neg hy] at e; exact D.noVar y e
  tmps := D.tmps.keepsOn fun b o hb e => by
   rcases hb with hb | ⟨o', hb⟩
   · exact hk b o (fun h => D.apartT x b h hb) e
   · have := hkp b o' hb
     have e2 := D.kept b o' hb
     rw [e] at e2; obtain rfl := si e2; exact this
  cells := fun y c e => by
   obtain ⟨⟨w, o, e1, e2⟩, hne⟩ := D.cells y c e
   exact ⟨⟨w, o, hk c o (cellK y c e) e1, e2⟩, hne⟩ }
theorem SimD.name {kp : PH} {m : Str → Option Value} {own : Str → List Addr} {tow : List (List Addr)} {A : Around} {x : Str} {pos : Pos} {v : Value} {Q : Value → Shared → Prop} {E : Value → Shared → Prop} (D : SimD C kk fk env ρ tmp s kp m own tow) (hv : VarAt env s.heap m x v)
 (H : Q v s) (hd : (x == ("__debug__" : Str)) = false := by decide) : wpAny (model C.prog C.w) A (eval (.Name x pos) env) Q E s := by
 refine wpAny_Name ?_ hd
 rcases hv with ⟨h1, h2⟩ | ⟨h1, c, h2, h3⟩
 · exact wpAny_loadName_local D.kind h1 D.ns h2 H
 · exact wpAny_loadName_cell D.kind h1 h2 h3 H
theorem lookup_zip_snoc {ns : List Str} {vs : List Value} {n : Str} {v : Value} (hl : ns.length = vs.length) (hn : n ∉ ns) (x : Str) : ((ns ++ [n]).zip (vs ++ [v])).lookup x = if x = n then some v else (ns.zip vs).lookup x := by
 induction ns generalizing vs with
 | nil =>
  cases vs with
  | nil =>
   by_cases h : x = n
   · simp [List.lookup, h]
   · have : (x == n) = false := by simpa using h
     simp [List.lookup, h, this]
  | cons w vs => cases hl
 | cons m ns ih =>
  cases vs with
  | nil => cases hl
  | cons w vs =>
   simp only [List.cons_append, List.zip_cons_cons, List.lookup_cons]
   rw [ih (by simpa using hl) (fun h => hn (List.mem_cons_of_mem _ h))]
   cases e : x == m with
   | true =>
    have : x ≠ n := fun q => hn (by rw [← q, beq_iff_eq.mp e]; exact List.mem_cons_self)
    simp [this]
   | false => rfl
theorem Ex.setAttr {x n : Str} {px ap pos : Pos} {e : Expr} {a? : Option Addr} {ns : List Str} {ps : List PV} {p : PV} (he : Ev C k env ρ e (.fr p)) (hx : ρ x = some (.ins a? Kc ns ps)) (X : K.In C.h₀) (O : ClsOk K Kc) (hn : findIn K (.ref Kc) n = some none) (hnew : n ∉ ns) (hz : ns.length ≤ 100 := by decide)
 (hd : (x == ("__debug__" : Str)) = false := by decide)
 (hs : swapsWith e (some (.Attribute (.Name x px) n ap)) pos.line env = pure false := by rfl) : Ex C k env ρ (.Assign [.Attribute (.Name x px) n ap] e pos) .next (upd ρ x (.ins a? Kc (ns ++ [n]) (ps ++ [p]))) := .mk fun A kk fk tmp s Q E R W S H =>
 plainObj_wpAny_Assign_Attribute (he.run A kk fk tmp s _ E R S fun v s1 S1 => by
  refine x40 S1 fun kp m own tow D => ?_; clear S1
  refine x12 D.top fun tow' _ hp D' => ?_
  refine x11 (D'.vars x _ hx) fun w hw r => ?_
  refine D'.name hw ?_ hd
  generalize hq : own x = ow at r
  refine x37 r.ins_inv fun a dx vs z1 z2 hq' ha hin hs' hlen hne => ?_; subst z1; subst z2
  refine setAttr_own (X.keeps fun b o e => D.kept _ _ (D.le _ _ (D.base _ _ e))) O hn ha hin hz fun h' tk hin' hsb => H _ ⟨kp, m, own, _, D'.modVar hx hw (h' := h') (tk := tk) (fun b o hb e => (hsb.2 b fun q => hb (by rw [hq, q]; simp)).trans e) ?_⟩
  rw [hq]
  refine .ins hq' ((hsb.2 a hne).trans ha) ?_ (hs'.append (.cons hp .nil)) (by simp [hlen]) hne
  refine x34 hin' fun o es ep i1 i2 i3 i4 i5 => ?_; clear hin'
  exact ⟨o, es, ep, i1, i2, i3, fun y => (i4 y).trans (lookup_zip_snoc (by rw [hs'.length, hlen]) hnew y).symm, by simpa using i5⟩) hs
end
section
variable {C : Cx} {k : Nat} {kk fk : PH} {env : Env} {ρ ρ' : Rho} {tmp : List (Loc × LV)} {s : Shared} {K : Frag} {Kc : Addr}
theorem Sim.consMany {p : PV} {v : Value} {ps : List PV} {vs : List Value} (S : Sim C kk fk env ρ ((.many ps, .many vs) :: (.fr p, .one v) :: tmp) s) : Sim C kk fk env ρ ((.many (p :: ps), .many (v :: vs)) :: tmp) s := by
 refine x40 S fun kp m own tow D => ?_; clear S
 refine x22 D.tmps.inv fun _ _ z1 h1 h2 => ?_; subst z1
 obtain ⟨rfl, hm⟩ := h1.many_inv
 refine x22 h2.inv fun _ _ z1 h3 h4 => ?_; subst z1
 obtain ⟨hp, rfl⟩ := h3.fr_inv
 exact ⟨kp, m, own, _, { D with tmps := .cons (.many (.cons hp hm)) h4, free := fun a h => D.free a (by simpa using h), apartT := fun x a h e => D.apartT x a h (by simpa using e), towN := by simpa using D.towN }⟩
theorem Sim.nilMany (S : Sim C kk fk env ρ tmp s) : Sim C kk fk env ρ ((.many [], .many []) :: tmp) s :=
 let ⟨kp, m, own, tow, D⟩ := S; ⟨kp, m, own, [] :: tow, { D with tmps := .cons (.many .nil) D.tmps }⟩
theorem Sim.manyLen {ps : List PV} {vs : List Value} (S : Sim C kk fk env ρ ((.many ps, .many vs) :: tmp) s) : vs.length = ps.length := by
 refine x40 S fun kp m own tow D => ?_; clear S
 refine x12 D.topMany fun _ _ hp _ => ?_
 exact hp.length
theorem Sim.in₀ {a : Addr} {o : Obj} (S : Sim C kk fk env ρ tmp s) (h : C.h₀.get? a = some o) : s.heap.get? a = some o :=
 let ⟨kp, m, own, tow, D⟩ := S; D.kept _ _ (D.le _ _ (D.base _ _ h))
theorem Sim.frag {K : Frag} (S : Sim C kk fk env ρ tmp s) (X : K.In C.h₀) : K.In s.heap := X.keeps fun b o e => S.in₀ e
structure Binds (C : Cx) (fd : FuncData) (ps : List PV) (kn : List Str) (kps : List PV) (names : List Str) (bps : List PV) : Prop where
 run : ∀ (A : Around) (kk fk : PH) (env : Env) (ρ : Rho) (tmp : List (Loc × LV)) (vs ks : List Value) (s : Shared) (Q : List (Str × Value) → Shared → Prop) (E : Value → Shared → Prop), A.handled = none → Sim C kk fk env ρ ((.many kps, .many ks) :: (.many ps, .many vs) :: tmp) s → (∀ bs s', Sim C kk fk env ρ ((.many bps, .many bs) :: tmp) s' → Q (names.zip bs) s') → wpAny (model C.prog C.w) A (bindArgs fd ⟨vs, kn.zip ks⟩) Q E s
theorem Binds.plain {fd : FuncData} {ps : List PV} {names : List Str} (h : ∀ vs : List Value, vs.length = ps.length → bindArgs fd ⟨vs, []⟩ = pure (names.zip vs)) : Binds C fd ps [] [] names ps := .mk fun A kk fk env ρ tmp vs ks s Q E hA S H => by
 have S1 : Sim C kk fk env ρ ((.many ps, .many vs) :: tmp) s := S.pop
 show wpAny _ _ (bindArgs fd ⟨vs, ([] : List Str).zip ks⟩) _ _ _
 rw [show ([] : List Str).zip ks = [] from rfl, h vs S1.manyLen]
 exact wpAny_pure (H vs s S1)
theorem Binds.kw {fd : FuncData} {ps kps : List PV} {kn names : List Str} (h : ∀ vs ks : List Value, vs.length = ps.length → ks.length = kps.length → bindArgs fd ⟨vs, kn.zip ks⟩ = pure (names.zip (vs ++ ks))) : Binds C fd ps kn kps names (ps ++ kps) := .mk fun A kk fk env ρ tmp vs ks s Q E hA S H => by
 have l1 := S.manyLen
 have l2 := S.pop.manyLen
 rw [h vs ks l2 l1]
 refine wpAny_pure (H _ s ?_)
 refine x40 S fun kp m own tow D => ?_; clear S
 refine x12 D.topMany fun tow1 _ hk D1 => ?_
 refine x12 D1.topMany fun tow2 _ hp D2 => ?_
 exact ⟨kp, m, own, [] :: tow2, { D2 with tmps := .cons (.many (hp.append hk)) D2.tmps }⟩
theorem Binds.defaults {fd : FuncData} {ps dps : List PV} {names : List Str} {T : Addr} {o : Obj} {items : Array Value} {n : Nat} (hd : fd.defaults = .ref T) (ho : C.h₀.get? T = some o) (hs : o.data = .seq items n) (hi : ∀ kp, Rps kp dps items.toList)
 (h : ∀ vs : List Value, vs.length = ps.length → ∃ kf, bindArgs fd ⟨vs, []⟩ = seqItems? fd.defaults >>= kf ∧ kf (some items) = pure (names.zip (vs ++ items.toList))) : Binds C fd ps [] [] names (ps ++ dps) := .mk fun A kk fk env ρ tmp vs ks s Q E hA S H => by
 have l2 := S.pop.manyLen
 refine x11 (h vs l2) fun kf h1 h2 => ?_
 show wpAny _ _ (bindArgs fd ⟨vs, ([] : List Str).zip ks⟩) _ _ _
 rw [show ([] : List Str).zip ks = [] from rfl, h1, hd]
 refine wpAny_bind (wpAny_seqItems (S.in₀ ho) hs ?_)
 rw [h2]
 refine wpAny_pure (H _ s ?_)
 refine x40 S fun kp m own tow D => ?_; clear S
 refine x12 D.topMany fun tow1 _ hk D1 => ?_
 refine x12 D1.topMany fun tow2 _ hp D2 => ?_
 exact ⟨kp, m, own, [] :: tow2, { D2 with tmps := .cons (.many (hp.append (hi kp))) D2.tmps }⟩
structure IsDef (C : Cx) (a : Addr) (fd : FuncData) (names : List Str) (body : List Stmt) : Prop where
 get : ∃ o, C.h₀.get? a = some o ∧ o.data = .func fd
 code : C.h₀.CodeRec fd.code fd.qualname
 body : fd.body = .stmts body
 clo : fd.closure = []
 kind : fd.scope.kind = .function
 coro : fd.scope.isCoroutine = false
 gen : fd.scope.isGenerator = false
 globals : fd.globals = mainGlobals
 builtins : fd.builtins = builtinsNs
 nms : ∀ x ∈ names, fd.scope.names.lookup x = some .local ∨ fd.scope.names.lookup x = some .cell
 cells : ∀ L, ∀ x ∈ names, fd.scope.names.lookup x = some .cell → ((callEnvC fd L a).cells.lookup x).isSome = true
structure BodyW (C : Cx) (k : Nat) (env : Env) (ρ₀ : Rho) (l₀ : Loc) (v₀ : LV) (body : List Stmt) (l l₁ : Loc) : Prop where
 run : ∀ (A : Around) (kk fk : PH) (s : Shared) (Q : Value → Shared → Prop) (E : Value → Shared → Prop), Rm A k → Wf fk env → Sim C kk fk env ρ₀ [(l₀, v₀)] s → (∀ v s' ρ', Sim C kk fk env ρ' [(l, .one v), (l₁, v₀)] s' → Q v s') → wpAny (model C.prog C.w) A (execs body env) (fun f s' => Q (match f with | .ret v => v | _ => .none) s') E s
theorem BodyW.ret {ρ₀ : Rho} {l₀ l : Loc} {v₀ : LV} {body : List Stmt} (h : Exs C k env ρ₀ body (.ret l) ρ') : BodyW C k env ρ₀ l₀ v₀ body l l₀ := .mk fun A kk fk s Q E R W S H =>
 h.run A kk fk [(l₀, v₀)] s _ E R W S fun v s' S' => H v s' _ S'
theorem RpL.nodup {kp : PH} {h : Heap} {l : Loc} {v : LV} {ow : List Addr} (r : RpL C kp h l v ow) : ow.Nodup := by
 induction r with
 | fr => simp
 | many => simp
 | ol => simp
 | itr hW hst hlen hval hfp hlive hnd hcls => assumption
 | itt hW hst hlen hval hfp hlive hnd => assumption
 | nsp => simp
 | oa => simp
 | hz ha hd hl hne => exact hne
 | ins hq ha hd hs hn hne => simp [hne]
 | hd hq ha hd hl hs hne => exact hne
 | od => simp
 | oll hl hv hb hne => exact hne
theorem Sim.take {x : Str} {l : Loc} {a : Addr} (S : Sim C kk fk env ρ tmp s) (hx : ρ x = some l) (hl : ∀ kp h v ow, RpL C kp h l (.one v) ow → v = .ref a) :
 Sim C kk fk env (upd ρ x (.fr (.con (.ref a)))) ((l, .one (.ref a)) :: tmp) s := by
 refine x40 S fun kp m own tow D => ?_; clear S
 refine x11 (D.vars x l hx) fun v hv r => ?_
 obtain rfl := hl _ _ _ _ r
 have hN : (own x).Nodup := r.nodup
 refine ⟨kp, m, fun y => if y = x then [] else own y, own x :: tow, { D with
  vars := fun y l' e => ?_
  noVar := fun y e => ?_
  tmps := .cons r D.tmps
  free := fun b h => ?_
  apart := fun y z b h1 h2 => ?_
  apartT := fun y b h e => ?_
  towN := by rw [List.flatten_cons]; exact List.nodup_append.mpr ⟨hN, D.towN, fun b hb c hc q => D.apartT x b hb (q ▸ hc)⟩ }⟩
 · unfold upd at e
   by_cases hy : y = x
   · subst hy
     simp only [if_true, Option.some.injEq] at e
     subst e
     exact ⟨_, hv, by simp only [if_true]; exact .fr (.con _)⟩
   · simp only [if_neg hy] at e ⊢
     exact D.vars y l' e
 · unfold upd at e
   by_cases hy : y = x
   · simp [hy] at e
   · simp only [if_neg hy] at e ⊢; exact D.noVar y e
 · have h0 : (∃ y, b ∈ own y) ∨ b ∈ tow.flatten := by
    rcases h with ⟨y, hy⟩ | h
    · split at hy
      · cases hy
      · exact .inl ⟨y, hy⟩
    · rw [List.flatten_cons, List.mem_append] at h
      exact h.elim (fun h => .inl ⟨x, h⟩) .inr
   exact D.free b h0
 · split at h1
   · cases h1
   · split at h2
     · cases h2
     · exact D.apart y z b h1 h2
 · split at h
   · cases h
   · rename_i q
     rw [List.flatten_cons, List.mem_append] at e
     rcases e with e | e
     · exact q (D.apart y x b h e)
     · exact D.apartT y b h e
theorem Sim.put {x : Str} {l : Loc} {w : Value} (S : Sim C kk fk env ρ ((l, .one w) :: tmp) s) (hx : ρ x = some (.fr (.con w))) : Sim C kk fk env (upd ρ x l) tmp s := by
 refine x40 S fun kp m own tow D => ?_; clear S
 refine x22 D.tmps.inv fun ow tow' z1 r r2 => ?_; subst z1
 refine x11 (D.vars x _ hx) fun v hv r0 => ?_
 obtain ⟨hp, hoe⟩ := r0.fr_inv
 obtain rfl := hp.con_inv
 have htn := D.towN
 rw [List.flatten_cons] at htn
 refine x02 (List.nodup_append.mp htn) fun n1 n2 n3 => ?_
 have inT : ∀ a ∈ ow, a ∈ (ow :: tow').flatten := fun a h => by rw [List.flatten_cons]; exact List.mem_append_left _ h
 refine ⟨kp, m, fun y => if y = x then ow else own y, tow', { D with
  vars := fun y l' e => ?_
  noVar := fun y e => ?_
  tmps := r2
  free := fun b h => ?_
  apart := fun y z b h1 h2 => ?_
  apartT := fun y b h e => ?_
  towN := n2 }⟩
 · unfold upd at e
   by_cases hy : y = x
   · subst hy
     simp only [if_true, Option.some.injEq] at e
     subst e
     exact ⟨_, hv, by simpa only [if_true] using r⟩
   · simp only [if_neg hy] at e ⊢
     exact D.vars y l' e
 · unfold upd at e
   by_cases hy : y = x
   · simp [hy] at e
   · simp only [if_neg hy] at e ⊢; exact D.noVar y e
 · have h0 : (∃ y, b ∈ own y) ∨ b ∈ (ow :: tow').flatten := by
    rcases h with ⟨y, hy⟩ | h
    · split at hy
      · exact .inr (inT b hy)
      · exact .inl ⟨y, hy⟩
    · rw [List.flatten_cons]; exact .inr (List.mem_append_right _ h)
   exact D.free b h0
 · split at h1 <;> split at h2
   · subst_vars; rfl
   · exact absurd (inT b h1) (D.apartT z b h2)
   · exact absurd (inT b h2) (D.apartT y b h1)
   · exact D.apart y z b h1 h2
 · split at h
   · exact n3 b h b e rfl
   · exact D.apartT y b h (by rw [List.flatten_cons]; exact List.mem_append_right _ e)
theorem SimD.enterW {kp : PH} {m : Str → Option Value} {own : Str → List Addr} {ow : List Addr} {tow : List (List Addr)} {ps : List PV} {vs : List Value} {l₀ : Loc} {v₀ : LV} (D : SimD C kk fk env ρ ((.many ps, .many vs) :: (l₀, v₀) :: tmp) s kp m own ([] :: ow :: tow))
 {fd : FuncData} {a : Addr} {names : List Str} {s₁ : Shared} (hn : names.length = ps.length) (hkind : fd.scope.kind = .function) (hg : fd.globals = mainGlobals) (hb : fd.builtins = builtinsNs)
 (hk : ∀ x ∈ names, fd.scope.names.lookup x = some .local ∨ fd.scope.names.lookup x = some .cell)
 (hcl : ∀ x ∈ names, fd.scope.names.lookup x = some .cell → ((callEnvC fd s.heap.objs.size a).cells.lookup x).isSome = true)
 (x : InCallC s (callEnvC fd s.heap.objs.size a).locals (bindL (callEnvC fd s.heap.objs.size a).kindOf (names.zip vs) fun _ => none) (callEnvC fd s.heap.objs.size a).cells
  (bindC (callEnvC fd s.heap.objs.size a).kindOf (names.zip vs) fun _ => none) s₁) :
 Sim C kp (fun b => if b ∈ ow then none else besides kp s.heap b) (callEnvC fd s.heap.objs.size a) (bindR (names.zip ps) fun _ => none) [(l₀, v₀)] s₁ := by
 have Sm : Sim C kk fk env ρ ((.many ps, .many vs) :: (l₀, v₀) :: tmp) s := ⟨kp, m, own, _, D⟩
 refine x12 D.topMany fun tow' e' hps D1 => ?_
 cases e'
 refine x40 (D.enter hn hkind hg hb hk hcl x) fun kp2 m2 own2 tow2 D2 => ?_
 -- the frame of a call without carried things, built anew
 have keep : ∀ b o, s.heap.get? b = some o → s₁.heap.get? b = some o := x.toInCall.keep
 have dead : ∀ b, s.heap.objs.size ≤ b → s.heap.get? b = none := fun b hb => by
  cases e : s.heap.get? b with
  | none => rfl
  | some o => exact absurd (Heap.lt_size e) (Nat.not_lt.mpr hb)
 have kpd : ∀ b, s.heap.objs.size ≤ b → kp b = none := fun b hb => by
  cases e : kp b with
  | none => rfl
  | some o => have := D.kept b o e; rw [dead b hb] at this; exact no this
 have inT : ∀ b ∈ ow, b ∈ (ow :: tow).flatten := fun b h => by rw [List.flatten_cons]; exact List.mem_append_left _ h
 have lo : ∀ b ∈ ow, b < s.heap.objs.size := fun b h => let ⟨o, e⟩ := D1.live (.inr (inT b h)); Heap.lt_size e
 have htn := D1.towN
 rw [List.flatten_cons] at htn
 have hv := bindR_ok (kp := kp) (callEnvC fd s.heap.objs.size a).kindOf names ps vs (fun _ => none) (fun _ => none) (fun _ => none) hps hn hk (fun x l e => by exact no e)
 obtain ⟨r0, r1⟩ := D1.tmps.inv2
 refine ⟨kp, _, fun _ => [], [ow], {
  rest := by refine x20 D.rest fun h t e => ?_; refine x20 x.toInCall.same fun h2 t2 e2 => ?_; exact ⟨h2, t2, by rw [e2, e]⟩
  base := fun b o e => D.le _ _ (D.base b o e)
  le := fun _ _ e => e
  kept := fun b o e => keep _ _ (D.kept b o e)
  fkept := fun b o e => keep _ _ (by
   split at e
   · exact no e
   · unfold besides at e; split at e <;> first | exact e | exact no e)
  kf := fun b o e => by
   split at e
   · exact no e
   · unfold besides at e; split at e <;> first | assumption | exact no e
  ns := x.toInCall.ns
  nl := kpd _ (Nat.le_refl _)
  vars := fun y l e => ?_
  noVar := fun _ _ => rfl
  tmps := .cons (r0.keeps keep) .nil
  free := fun b h => ?_
  apart := fun _ _ _ h => by simp at h
  apartT := fun _ _ h => by simp at h
  towN := by simpa using (List.nodup_append.mp htn).1
  cells := D2.cells
  wcell := ⟨fun y c e hlt => kpd c (Nat.le_of_lt (x.above y c (mem_of_lookup e))), D2.wcell.2⟩
  globals := hg
  builtins := hb
  kind := hkind }⟩
 · refine x22 (hv y l e) fun p v z1 hp hv => ?_; subst z1
   refine ⟨v, ?_, .fr hp⟩
   rcases hv with ⟨h1, h2⟩ | ⟨h1, h2⟩
   · exact .inl ⟨h1, h2⟩
   · refine .inr ⟨h1, ?_⟩
     have hy : y ∈ names := by
      apply Classical.byContradiction
      intro hy
      have : ∀ (ns : List Str) (vs : List Value) (cm : Str → Option Value), y ∉ ns → cm y = none → bindC (callEnvC fd s.heap.objs.size a).kindOf (ns.zip vs) cm y = none := by
       intro ns
       induction ns with
       | nil => intro vs cm _ h; simpa [bindC] using h
       | cons n ns ih =>
        intro vs cm hy h
        cases vs with
        | nil => simpa [bindC] using h
        | cons v vs =>
         simp only [List.zip_cons_cons, bindC]
         refine ih vs _ (fun hm => hy (List.mem_cons_of_mem _ hm)) ?_
         have : y ≠ n := fun q => hy (q ▸ List.mem_cons_self)
         split <;> simp [h, this]
      rw [this names vs _ hy rfl] at h2
      cases h2
     obtain ⟨c, hc⟩ := Option.isSome_iff_exists.mp (hcl y hy h1)
     exact ⟨c, hc, h2 ▸ x.cell y c hc⟩
 · have hb' : b ∈ ow := by simpa using h
   have hf := D1.free b (.inr (inT b hb'))
   refine ⟨hf.1, by simp [hb'], Nat.ne_of_lt (lo b hb'), fun y c e q => ?_⟩
   subst q
   exact absurd (x.above y _ (mem_of_lookup e)) (Nat.not_lt.mpr (Nat.le_of_lt (lo _ hb')))
theorem callRun {A : Around} {a : Addr} {fd : FuncData} {body : List Stmt} {names kn : List Str} {ps kps bps : List PV} {vs ks : List Value} {l₀ l₁ l : Loc} {v₀ : LV} {R : Result → Shared → Prop} (F : IsDef C a fd names body) (RA : Rm A (k + 1))
 (hb : Binds C fd ps kn kps names bps) (hn : names.length = bps.length) (h : ∀ L, BodyW C k (callEnvC fd L a) (bindR (names.zip bps) fun _ => none) l₀ v₀ body l l₁)
 (S : Sim C kk fk env ρ ((.many kps, .many ks) :: (.many ps, .many vs) :: (l₀, v₀) :: tmp) s) (H : ∀ v s', Sim C kk fk env ρ ((l, .one v) :: (l₁, v₀) :: tmp) s' → R (.ok (.ret v)) s') :
 codeAny (model C.prog C.w) A (.call (.ref a) ⟨vs, kn.zip ks⟩) R s := by
 refine x11 F.get fun o ho hd => ?_
 have keep : ∀ {tmp : List (Loc × LV)} {s : Shared}, Sim C kk fk env ρ tmp s → ∀ b o, C.h₀.get? b = some o → s.heap.get? b = some o := fun S b o e => S.in₀ e
 refine codeAny_call_function (by have := RA.depth; omega) (S.in₀ ho) hd F.coro F.gen F.body (F.code.keeps (keep S)) (hb.run A.in1 kk fk env ρ _ vs ks s _ _ RA.handled S fun bs s1 S1 => ?_)
 rw [F.clo]
 have hbl := S1.manyLen
 refine wpAny_newFunctionEnv_cells F.kind (fun x hx => ?_) fun env' he s₂ x => ?_
 · obtain ⟨n, v⟩ := x
   have hm : n ∈ names := (List.of_mem_zip hx).1
   exact (F.nms n hm).imp id fun hc => ⟨hc, F.cells _ n hm hc⟩
 · subst he
   have x : InCallC s1 (callEnvC fd s1.heap.objs.size a).locals (bindL (callEnvC fd s1.heap.objs.size a).kindOf (names.zip bs) fun _ => none) (callEnvC fd s1.heap.objs.size a).cells (bindC (callEnvC fd s1.heap.objs.size a).kindOf (names.zip bs) fun _ => none) s₂ := x
   refine ⟨(C.lim.keeps (keep S1)).keeps x.toInCall.keep, codeAny_func ?_⟩
   refine x40 S1 fun kp m own tow D => ?_; clear S1
   refine x12 D.topMany fun tow' z1 _ D1 => ?_; subst z1
   refine x22 D1.tmps.inv fun ow tow2 z1 r0 r1 => ?_; subst z1
   have htn := D1.towN
   rw [List.flatten_cons] at htn
   refine x02 (List.nodup_append.mp htn) fun n1 n2 n3 => ?_
   have inT : ∀ b ∈ ow, b ∈ (ow :: tow2).flatten := fun b h => by rw [List.flatten_cons]; exact List.mem_append_left _ h
   have dead : ∀ b, s1.heap.objs.size ≤ b → s1.heap.get? b = none := fun b hb => by
    cases e : s1.heap.get? b with
    | none => rfl
    | some o => exact absurd (Heap.lt_size e) (Nat.not_lt.mpr hb)
   have deadI : ∀ b, s1.heap.objs.size ≤ b → (if b ∈ ow then none else besides kp s1.heap b) = none := fun b hb => by
    split
    · rfl
    · unfold besides; cases kp b <;> simp [dead b hb]
   refine (h s1.heap.objs.size).run _ kp _ s₂ (fun v s' => R (.ok (.ret v)) s') _ (RA.deeper _) ⟨deadI _ (Nat.le_refl _), fun y c e hlt => deadI c (Nat.le_of_lt hlt)⟩ (D.enterW hn F.kind F.globals F.builtins F.nms (F.cells _) x) fun v s' ρ' S' => ?_
   have D0 : SimD C kk fk env ρ tmp s1 kp m own tow2 := { D1 with
    tmps := r1
    free := fun a h => D1.free a (h.imp id fun e => by rw [List.flatten_cons]; exact List.mem_append_right _ e)
    apartT := fun x a h e => D1.apartT x a h (by rw [List.flatten_cons]; exact List.mem_append_right _ e)
    towN := n2 }
   have B := D0.backW (env' := callEnvC fd s1.heap.objs.size a) (wr := ow) (fi := fun b => if b ∈ ow then none else besides kp s1.heap b) (fun b hb => ?_) (fun b o e hk hw => by simp [hw, besides, hk, e]) (dead _ (Nat.le_refl _)) S'
   · refine H v s' ?_
     have B' : Sim C kk fk env ρ ((l, .one v) :: (l₁, v₀) :: (.nsp, .one (.ref (callEnvC fd s1.heap.objs.size a).locals)) :: tmp) s' := B
     refine x40 B'.turn3 fun kp3 m3 own3 tow3 D3 => ?_
     refine x22 D3.tmps.inv fun _ _ z1 q1 q2 => ?_; subst z1
     exact Sim.pop2 ⟨kp3, m3, own3, _, D3⟩
   · refine x03 (D1.free b (.inr (inT b hb))) fun f1 f2 f3 f4 => ?_
     exact ⟨f2, f1, f3, f4, fun x hx => D1.apartT x b hx (inT b hb), fun h => n3 b hb b h rfl⟩
end
section
variable {C : Cx} {k : Nat} {kk fk : PH} {env : Env} {ρ ρ' : Rho} {tmp : List (Loc × LV)} {s : Shared} {K : Frag} {Kc : Addr}
theorem BodyW.ownN {ρ₀ : Rho} {x : Str} {a : Addr} {l₀ l₁ : Loc} {body : List Stmt} (hx : ρ₀ x = some (.fr (.con (.ref a)))) (h : Exs C k env (upd ρ₀ x l₀) body .next ρ') (h1 : ρ' x = some l₁)
 (hl : ∀ kp h v ow, RpL C kp h l₁ (.one v) ow → v = .ref a) : BodyW C k env ρ₀ l₀ (.one (.ref a)) body (.fr .none) l₁ := .mk fun A kk fk s Q E R W S H =>
 h.run A kk fk [] s _ E R W (S.put hx) fun s' S' => H _ s' _ ((S'.take h1 hl).pushImm fun _ => .none)
theorem PN.def {a : Addr} {fd : FuncData} {body : List Stmt} {names : List Str} {ps bps : List PV} {l : Loc} (F : IsDef C a fd names body) (hb : Binds C fd ps [] [] names bps) (hn : names.length = bps.length)
 (h : ∀ L, BodyW C k (callEnvC fd L a) (bindR (names.zip bps) fun _ => none) (.many []) (.many []) body l (.many [])) : PN C (k + 1) (.ref a) ps l := .mk fun A kk fk env ρ tmp vs s Q E R S H => by
 have S1 : Sim C kk fk env ρ ((.many [], .many []) :: (.many ps, .many vs) :: (.many [], .many []) :: tmp) s := (S.nilMany.turn2).nilMany
 exact wpAny_call (callRun (kn := []) (ks := []) F R hb hn h S1 fun v s' S' => H v s' (Sim.pop2 S'))
structure MethIs (K : Frag) (Kc : Addr) (n : Str) (f : Addr) : Prop where
 find : findIn K (.ref Kc) n = some (some (.ref f))
 typ : typeIn K (.ref f) = some (.type "function")
 keep : keepIn K (.ref f) = true
noncomputable def methOk (K : Frag) (Kc : Addr) (n : Str) (f : Addr) : Bool := findIn K (.ref Kc) n == some (some (.ref f)) && typeIn K (.ref f) == some (.type "function") && keepIn K (.ref f)
theorem methOk.of {n : Str} {f : Addr} (h : methOk K Kc n f = true) : MethIs K Kc n f := by
 simp only [methOk, Bool.and_eq_true, beq_iff_eq] at h
 exact ⟨h.1.1, h.1.2, h.2⟩
theorem getMeth {A : Around} {a dx f : Addr} {m : Str → Option Value} {z : Nat} {n : Str} {pl : Sem Bool} {Q : Value × List Value → Shared → Prop} {E : Value → Shared → Prop} (X : K.In s.heap) (O : ClsOk K Kc) (M : MethIs K Kc n f)
 (ha : s.heap.get? a = some (instObj Kc dx)) (hd : InD s.heap dx m z) (hm : m n = none) (H : Q (.ref f, [.ref a]) s) : wpAny (model C.prog C.w) A (getMethod (.ref a) n pl) Q E s := by
 refine x11 hd.look fun od hod hl => ?_
 exact method_fn X (instAt (Kc := Kc) ha hod) O.ga O.gx M.find M.typ (by unfold shadowIn; dsimp only; rw [hl n, hm]; rfl) H
theorem lookup_zip_none : ∀ {ns : List Str} {α β : Type} {ps : List α} {vs : List β} {n : Str}, n ∉ ns → (ns.zip vs).lookup n = none
 | [], _, _, _, _, _, _ => by simp
 | _ :: _, _, _, _, [], _, _ => by simp
 | m :: ns, α, β, ps, v :: vs, n, h => by
  have : (n == m) = false := by simp; exact fun q => h (q ▸ List.mem_cons_self)
  simp only [List.zip_cons_cons, List.lookup_cons, this]
  exact lookup_zip_none (ps := ps) fun q => h (List.mem_cons_of_mem _ q)
theorem Ev.meth {o : Expr} {n : Str} {apos pos : Pos} {e : Expr} {es : List Expr} {ns : List Str} {ps args : List PV} {f : Addr} {l : Loc} {pl : Sem Bool} (ho : Ev C k env ρ o (.fr (.inst Kc ns ps))) (ha : EvL C k env ρ (e :: es) args) (X : K.In C.h₀) (O : ClsOk K Kc) (M : MethIs K Kc n f) (hn : n ∉ ns)
 (h : PN C k (.ref f) (.inst Kc ns ps :: args) l)
 (hc : eval (.Call (.Attribute o n apos) (e :: es) [] pos) env = (do
  let ov ← eval o env
  standAt apos.atName
  let (f, first) ← holding [ov] (getMethod ov n pl)
  callWith pos f first (backTo pos (starEach (e :: es) env)) []) := by rfl)
 (he : starEach (e :: es) env = (false, eval e env) :: starEach es env := by rfl) (hplain : (backTo pos (starEach es env)).any (·.1) = false := by rfl) : Ev C k env ρ (.Call (.Attribute o n apos) (e :: es) [] pos) l := .mk fun A kk fk tmp s Q E R S H =>
 MethodCall_ (pl := pl) (ho.run A kk fk tmp s _ E R S fun ov s1 S1 => by
  have Xs := S1.frag X
  refine x40 (id S1) fun kp m own tow D => ?_
  refine x12 D.top fun tow' _ hr D' => ?_
  cases hr with
  | @inst _ _ _ a dx od es' z vs ha' hd hde hk hs hl hf =>
  refine getMeth Xs O M (D.kept _ _ ha') ⟨od, es', z, D.kept _ _ hd, hde, hk, hf, Nat.le_refl _⟩ (lookup_zip_none (ps := ps) hn) ?_
  exact callWith_K Xs M.keep (ha.run pos A kk fk _ s1 _ E R S1 fun vs' s2 S2 => ⟨S2.frag X, h.run A kk fk env ρ tmp _ s2 Q E R S2.consMany H⟩) he hplain) hc
theorem Ev.meth0 {o : Expr} {n : Str} {apos pos : Pos} {ns : List Str} {ps : List PV} {f : Addr} {l : Loc} {pl : Sem Bool} (ho : Ev C k env ρ o (.fr (.inst Kc ns ps))) (X : K.In C.h₀) (O : ClsOk K Kc) (M : MethIs K Kc n f) (hn : n ∉ ns)
 (h : PN C k (.ref f) [.inst Kc ns ps] l)
 (hc : eval (.Call (.Attribute o n apos) [] [] pos) env = (do
  let ov ← eval o env
  standAt apos.atName
  let (f, first) ← holding [ov] (getMethod ov n pl)
  callWith pos f first (backTo pos (starEach [] env)) []) := by rfl) : Ev C k env ρ (.Call (.Attribute o n apos) [] [] pos) l := .mk fun A kk fk tmp s Q E R S H =>
 MethodCall_ (pl := pl) (ho.run A kk fk tmp s _ E R S fun ov s1 S1 => by
  have Xs := S1.frag X
  refine x40 (id S1) fun kp m own tow D => ?_
  refine x12 D.top fun tow' _ hr D' => ?_
  cases hr with
  | @inst _ _ _ a dx od es' z vs ha' hd hde hk hs hl hf =>
  refine getMeth Xs O M (D.kept _ _ ha') ⟨od, es', z, D.kept _ _ hd, hde, hk, hf, Nat.le_refl _⟩ (lookup_zip_none (ps := ps) hn) ?_
  exact callWith_K0 Xs M.keep (by simpa using h.run A kk fk env ρ tmp [.ref a] s1 Q E R (Sim.consMany S1.nilMany) H)) hc
structure PK (C : Cx) (k : Nat) (f : Value) (ps : List PV) (kn : List Str) (kps : List PV) (l : Loc) : Prop where
 run : ∀ (A : Around) (kk fk : PH) (env : Env) (ρ : Rho) (tmp : List (Loc × LV)) (vs ks : List Value) (s : Shared) (Q : Value → Shared → Prop) (E : Value → Shared → Prop), Rm A k → Sim C kk fk env ρ ((.many kps, .many ks) :: (.many ps, .many vs) :: tmp) s → (∀ v s', Sim C kk fk env ρ ((l, .one v) :: tmp) s' → Q v s') → wpAny (model C.prog C.w) A (call f vs (kn.zip ks)) Q E s
theorem PK.def {a : Addr} {fd : FuncData} {body : List Stmt} {names kn : List Str} {ps kps bps : List PV} {l : Loc} (F : IsDef C a fd names body) (hb : Binds C fd ps kn kps names bps) (hn : names.length = bps.length)
 (h : ∀ L, BodyW C k (callEnvC fd L a) (bindR (names.zip bps) fun _ => none) (.many []) (.many []) body l (.many [])) : PK C (k + 1) (.ref a) ps kn kps l := .mk fun A kk fk env ρ tmp vs ks s Q E R S H => by
 have S1 : Sim C kk fk env ρ ((.many kps, .many ks) :: (.many ps, .many vs) :: (.many [], .many []) :: tmp) s := by
  have := S.nilMany.turn2.turn3
  exact this
 exact wpAny_call (callRun (kn := kn) (ks := ks) F R hb hn h S1 fun v s' S' => H v s' (Sim.pop2 S'))
structure EvK (C : Cx) (k : Nat) (env : Env) (ρ : Rho) (kws : List Keyword) (kps : List PV) : Prop where
 run : ∀ (pos : Pos) (A : Around) (kk fk : PH) (tmp : List (Loc × LV)) (s : Shared) (Q : List Value → Shared → Prop) (E : Value → Shared → Prop), Rm A k → Sim C kk fk env ρ tmp s → (∀ vs s', Sim C kk fk env ρ ((.many kps, .many vs) :: tmp) s' → Q vs s') → wpAny (model C.prog C.w) A (evalAll ((backToKw pos (keywordEach kws env)).map (·.2))) Q E s
theorem EvK.nil : EvK C k env ρ [] [] := .mk fun pos A kk fk tmp s Q E R S H => kwAll_nil (H _ _ S.nilMany)
theorem EvK.cons {n : Str} {e : Expr} {p : Pos} {kws : List Keyword} {q : PV} {kps : List PV} (h1 : Ev C k env ρ e (.fr q)) (h2 : EvK C k env ρ kws kps) : EvK C k env ρ (⟨some n, e, p⟩ :: kws) (q :: kps) := .mk fun pos A kk fk tmp s Q E R S H =>
 kwAll_cons (h1.run A kk fk tmp s _ E R S fun v s1 S1 => h2.run pos A kk fk _ s1 _ E R S1 fun vs s2 S2 => H _ _ S2.consMany)
theorem Ev.methK {o : Expr} {n : Str} {apos pos : Pos} {e : Expr} {es : List Expr} {kws : List Keyword} {kn : List Str} {ns : List Str} {ps args kps : List PV} {f : Addr} {l : Loc} {pl : Sem Bool} (ho : Ev C k env ρ o (.fr (.inst Kc ns ps))) (ha : EvL C k env ρ (e :: es) args) (hkw : EvK C k env ρ kws kps) (X : K.In C.h₀) (O : ClsOk K Kc) (M : MethIs K Kc n f) (hn : n ∉ ns)
 (h : PK C k (.ref f) (.inst Kc ns ps :: args) kn kps l)
 (hkn : ∀ pos, (backToKw pos (keywordEach kws env)).filterMap (·.1) = kn := by intro _; rfl) (hall : ∀ pos, (backToKw pos (keywordEach kws env)).all (·.1.isSome) = true := by intro _; rfl)
 (hc : eval (.Call (.Attribute o n apos) (e :: es) kws pos) env = (do
  let ov ← eval o env
  standAt apos.atName
  let (f, first) ← holding [ov] (getMethod ov n pl)
  callWith pos f first (backTo pos (starEach (e :: es) env)) (backToKw pos (keywordEach kws env))) := by rfl)
 (he : starEach (e :: es) env = (false, eval e env) :: starEach es env := by rfl)
 (hplain : ((backTo pos (starEach (e :: es) env)).any (·.1) || (backToKw pos (keywordEach kws env)).any (·.1.isNone)) = false := by rfl) : Ev C k env ρ (.Call (.Attribute o n apos) (e :: es) kws pos) l := .mk fun A kk fk tmp s Q E R S H =>
 methodCall_KW (pl := pl) (ho.run A kk fk tmp s _ E R S fun ov s1 S1 => by
  have Xs := S1.frag X
  refine x40 (id S1) fun kp m own tow D => ?_
  refine x12 D.top fun tow' _ hr D' => ?_
  cases hr with
  | @inst _ _ _ a dx od es' z vs ha' hd hde hk hs hl hf =>
  refine getMeth Xs O M (D.kept _ _ ha') ⟨od, es', z, D.kept _ _ hd, hde, hk, hf, Nat.le_refl _⟩ (lookup_zip_none (ps := ps) hn) ?_
  refine callWith_KW Xs M.keep (hall pos) (ha.run pos A kk fk _ s1 _ E R S1 fun vs' s2 S2 => hkw.run pos A kk fk _ s2 _ E R S2 fun ks s3 S3 => ⟨S3.frag X, ?_⟩) hplain he
  rw [hkn pos]
  exact h.run A kk fk env ρ tmp _ ks s3 Q E R S3.turn2.turn3.consMany.turn2 H) hc
def hasAddr (l : Loc) (a : Addr) : Prop := ∀ C kp h v ow, RpL C kp h l (.one v) ow → v = .ref a
theorem hasAddr.hd {a b : Addr} {f : Str} {xs : List PV} : hasAddr (.hd (some (a, b)) Kc f xs) a := fun C kp h v ow r => by
 obtain ⟨a', dx, b', vs, rfl, -, hq, -⟩ := r.hd_inv
 rw [(Prod.mk.inj (hq (a, b) rfl)).1]
theorem hasAddr.oa {a : Addr} {xs : List PV} : hasAddr (.oa a xs) a := fun C kp h v ow r => by obtain ⟨_, e, -⟩ := r.oa_inv; exact e
theorem hasAddr.ins {a : Addr} {ns : List Str} {ps : List PV} : hasAddr (.ins (some a) Kc ns ps) a := fun C kp h v ow r => by
 refine x33 r.ins_inv fun a' dx vs z1 _ hq _ => ?_; subst z1
 rw [hq a rfl]
theorem Sim.tell {x : Str} {f : Str} {xs : List PV} {q : Option (Addr × Addr)} (S : Sim C kk fk env ρ tmp s) (hx : ρ x = some (.hd q Kc f xs)) : ∃ a b, Sim C kk fk env (upd ρ x (.hd (some (a, b)) Kc f xs)) tmp s := by
 refine x40 S fun kp m own tow D => ?_; clear S
 refine x11 (D.vars x _ hx) fun v hv r => ?_
 generalize hq : own x = ow at r
 refine x47 r.hd_inv fun a dx b vs z1 z2 hq' ha hin hl hs hne => ?_; subst z1; subst z2
 refine ⟨a, b, kp, m, own, tow, { D with vars := fun y l e => ?_, noVar := fun y e => ?_ }⟩
 · unfold upd at e
   by_cases hy : y = x
   · subst hy
     simp only [if_true, Option.some.injEq] at e
     subst e
     exact ⟨_, hv, by rw [hq]; exact .hd (fun c e => by obtain rfl := si e; rfl) ha hin hl hs hne⟩
   · simp only [if_neg hy] at e; exact D.vars y l e
 · unfold upd at e
   by_cases hy : y = x
   · simp [hy] at e
   · simp only [if_neg hy] at e; exact D.noVar y e
theorem Sim.untell {x : Str} {f : Str} {xs : List PV} {q : Option (Addr × Addr)} (S : Sim C kk fk env ρ tmp s) (hx : ρ x = some (.hd q Kc f xs)) : Sim C kk fk env (upd ρ x (.hd none Kc f xs)) tmp s := by
 refine x40 S fun kp m own tow D => ?_; clear S
 refine x11 (D.vars x _ hx) fun v hv r => ?_
 generalize hq : own x = ow at r
 refine x47 r.hd_inv fun a dx b vs z1 z2 hq' ha hin hl hs hne => ?_; subst z1; subst z2
 refine ⟨kp, m, own, tow, { D with vars := fun y l e => ?_, noVar := fun y e => ?_ }⟩
 · unfold upd at e
   by_cases hy : y = x
   · subst hy
     simp only [if_true, Option.some.injEq] at e
     subst e
     exact ⟨_, hv, by rw [hq]; exact .hd (fun c e => by exact no e) ha hin hl hs hne⟩
   · simp only [if_neg hy] at e; exact D.vars y l e
 · unfold upd at e
   by_cases hy : y = x
   · simp [hy] at e
   · simp only [if_neg hy] at e; exact D.noVar y e
theorem upd_upd {x : Str} {l l' : Loc} : upd (upd ρ x l) x l' = upd ρ x l' := by funext y; unfold upd; split <;> rfl
theorem uq {x : Str} {l : Loc} : upd ρ x l x = some l := by simp [upd]
theorem Ex.methOwn {x n : Str} {px apos pos spos : Pos} {e : Expr} {es : List Expr} {q : Option (Addr × Addr)} {fl : Str} {xs xs' : List PV} {args bps : List PV} {f : Addr} {fd : FuncData} {body : List Stmt} {names : List Str} {pl : Sem Bool} {l : Loc}
 (hx : ρ x = some (.hd q Kc fl xs)) (ha : ∀ a b, EvL C (k + 1) env (upd ρ x (.hd (some (a, b)) Kc fl xs)) (e :: es) args) (X : K.In C.h₀) (O : ClsOk K Kc) (M : MethIs K Kc n f) (hn : n ≠ fl)
 (F : IsDef C f fd names body) (hb : ∀ a, Binds C fd (.con (.ref a) :: args) [] [] names (.con (.ref a) :: bps)) (hl : names.length = bps.length + 1)
 (h : ∀ L a b, BodyW C k (callEnvC fd L f) (bindR (names.zip (.con (.ref a) :: bps)) fun _ => none) (.hd (some (a, b)) Kc fl xs) (.one (.ref a)) body l (.hd (some (a, b)) Kc fl xs'))
 (hd : (x == ("__debug__" : Str)) = false := by decide)
 (hc : eval (.Call (.Attribute (.Name x px) n apos) (e :: es) [] pos) env = (do
  let ov ← eval (.Name x px) env
  standAt apos.atName
  let (f, first) ← holding [ov] (getMethod ov n pl)
  callWith pos f first (backTo pos (starEach (e :: es) env)) []) := by rfl)
 (he : starEach (e :: es) env = (false, eval e env) :: starEach es env := by rfl) (hplain : (backTo pos (starEach es env)).any (·.1) = false := by rfl) :
 ∀ (A : Around) (kk fk : PH) (tmp : List (Loc × LV)) (s : Shared) (Q : Value → Shared → Prop) (E : Value → Shared → Prop), Rm A (k + 1) → Sim C kk fk env ρ tmp s →
  (∀ v s', Sim C kk fk env (upd ρ x (.hd none Kc fl xs')) ((l, .one v) :: tmp) s' → Q v s') → wpAny (model C.prog C.w) A (eval (.Call (.Attribute (.Name x px) n apos) (e :: es) [] pos) env) Q E s := fun A kk fk tmp s Q E R S H => by
 refine x20 (S.tell hx) fun a b T => ?_
 refine MethodCall_ (pl := pl) ?_ hc
 refine x40 (id T) fun kp m own tow D => ?_
 refine x11 (D.vars x _ uq) fun v hv r => ?_
 have hva : v = .ref a := hasAddr.hd _ _ _ _ _ r
 subst hva
 refine D.name hv ?_ hd
 generalize hq : own x = ow at r
 refine x47 r.hd_inv fun a₂ dx b₂ vs _ z1 hq' ha' hin hl' hs hne => ?_; subst z1
 obtain ⟨rfl, rfl⟩ := Prod.mk.inj (hq' (a, b) rfl)
 refine getMeth (T.frag X) O M ha' hin (by simp [hn]) ?_
 refine callWith_K (T.frag X) M.keep ((ha a b).run pos A kk fk tmp s _ E R T fun vs' s2 S2 => ⟨S2.frag X, ?_⟩) he hplain
 have S3 := S2.take (a := a) uq fun kp h v ow r => hasAddr.hd C kp h v ow r
 rw [upd_upd] at S3
 have S4 := ((S3.turn2.pushImm (p := .con (.ref a)) (v := .ref a) fun _ => .con _).turn2.consMany).nilMany
 exact wpAny_call (callRun (kn := []) (ks := []) F R (hb a) (by simpa using hl) (fun L => h L a b) S4 fun v s' S' => H v s' (by
  have P := S'.turn2.put uq
  rw [upd_upd] at P
  have U := P.untell uq
  rwa [upd_upd] at U))
end
section
variable {C : Cx} {k : Nat} {kk fk : PH} {env : Env} {ρ ρ' : Rho} {tmp : List (Loc × LV)} {s : Shared} {K : Frag} {Kc : Addr}
theorem Sim.tellL {x : Str} {xs : List PV} (S : Sim C kk fk env ρ tmp s) (hx : ρ x = some (.ol xs)) : ∃ b, Sim C kk fk env (upd ρ x (.oa b xs)) tmp s := by
 refine x40 S fun kp m own tow D => ?_; clear S
 refine x11 (D.vars x _ hx) fun v hv r => ?_
 generalize hq : own x = ow at r
 refine x23 r.ol_inv fun a vs z1 z2 hl hs => ?_; subst z1; subst z2
 refine ⟨a, kp, m, own, tow, { D with vars := fun y l e => ?_, noVar := fun y e => ?_ }⟩
 · unfold upd at e
   by_cases hy : y = x
   · subst hy
     simp only [if_true, Option.some.injEq] at e
     subst e
     exact ⟨_, hv, by rw [hq]; exact .oa hl hs⟩
   · simp only [if_neg hy] at e; exact D.vars y l e
 · unfold upd at e
   by_cases hy : y = x
   · simp [hy] at e
   · simp only [if_neg hy] at e; exact D.noVar y e
theorem Ex.brk {pos : Pos} : Ex C k env ρ (.Break pos) .brk ρ := .mk fun A kk fk tmp s Q E R W S H => wpAny_Break (H s S)
theorem Ex.retOwn {x : Str} {px pos : Pos} {l : Loc} (hx : ρ x = some l) (hd : (x == ("__debug__" : Str)) = false := by decide) : Ex C k env ρ (.Return (some (.Name x px)) pos) (.ret l) (fun _ => none) := .mk fun A kk fk tmp s Q E R W S H =>
 wpAny_Return_some (by
  refine x40 S fun kp m own tow D => ?_; clear S
  refine x11 (D.vars x _ hx) fun v hv r => ?_
  refine D.name hv (H v s ⟨kp, m, fun _ => [], own x :: tow, { D with
   vars := fun y l e => by exact no e
   noVar := fun _ _ => rfl
   tmps := .cons r D.tmps
   free := fun b h => D.free b (by
    rcases h with ⟨y, hy⟩ | h
    · cases hy
    · rw [List.flatten_cons, List.mem_append] at h
      exact h.elim (fun h => .inl ⟨x, h⟩) .inr)
   apart := fun y z b h1 h2 => by cases h1
   apartT := fun y b h e => by cases h
   towN := by rw [List.flatten_cons]; exact List.nodup_append.mpr ⟨r.nodup, D.towN, fun b hb c hc q => D.apartT x b hb (q ▸ hc)⟩ }⟩) hd)
theorem Ex.append {x : Str} {px ap pos spos : Pos} {e : Expr} {xs : List PV} {p : PV} {pl : Sem Bool} (hx : ρ x = some (.ol xs)) (he : ∀ b, Ev C k env (upd ρ x (.oa b xs)) e (.fr p)) (hsz : xs.length ≤ sizeLine)
 (hd : (x == ("__debug__" : Str)) = false := by decide)
 (hc : eval (.Call (.Attribute (.Name x px) "append" ap) [e] [] pos) env = (do
  let ov ← eval (.Name x px) env
  standAt ap.atName
  let (f, first) ← holding [ov] (getMethod ov "append" pl)
  callWith pos f first (backTo pos (starEach [e] env)) []) := by rfl)
 (hE : starEach [e] env = (false, eval e env) :: starEach [] env := by rfl)
 (hi : interactive env = false := by rfl) (hs : swapsWith (.Call (.Attribute (.Name x px) "append" ap) [e] [] pos) none spos.line env = pure false := by rfl) :
 Ex C k env ρ (.Expr (.Call (.Attribute (.Name x px) "append" ap) [e] [] pos) spos) .next (upd ρ x (.ol (xs ++ [p]))) := .mk fun A kk fk tmp s Q E R W S H => by
 obtain ⟨b, T⟩ := S.tellL hx
 refine wpAny_Expr_any (MethodCall_ (pl := pl) ?_ hc) hi hs
 refine x40 (id T) fun kp m own tow D => ?_
 refine x11 (D.vars x _ uq) fun v hv r => ?_
 obtain rfl := hasAddr.oa _ _ _ _ _ r
 refine D.name hv ?_ hd
 generalize hq : own x = ow at r
 obtain ⟨vs, -, rfl, hl, hs'⟩ := r.oa_inv
 obtain ⟨n, ho⟩ := id hl
 refine Calls.getMethod_list_append ho rfl rfl ?_
 refine callWith_method1 ((EvL.cons (he b) EvL.nil hE).run pos A kk fk tmp s _ E R T fun vs' s2 S2 => ?_) hE rfl
 refine x40 S2 fun kp2 m2 own2 tow2 D2 => ?_; clear S2
 refine x12 D2.topMany fun tow3 _ hp D3 => ?_
 refine x11 hp.one_inv fun _ z1 hp1 => ?_; subst z1
 refine x11 (D3.vars x _ uq) fun v2 hv2 r2 => ?_
 generalize hq2 : own2 x = ow2 at r2
 obtain ⟨vs2, rfl, rfl, hl2, hs2⟩ := r2.oa_inv
 refine wpAny_list_append_plain hl2 (fun h' hl' hsb => ?_) (by have := hs2.length; simp at this; omega)
 have M := D3.modVar (l' := .ol (xs ++ [p])) uq hv2 (h' := h') (tk := s2.toks) (fun c o hc e => (hsb.2 c (fun q => hc (by rw [hq2, q]; simp))).trans e) (by rw [hq2]; exact .ol hl' (by simpa using hs2.append (.cons hp1 .nil)))
 rw [upd_upd] at M
 exact H _ ⟨kp2, m2, own2, tow3, M⟩
theorem mapSeq_set (its : Array Value) (n : Nat) (j : Nat) (x : Value) (hj : j < its.size) :
 Obj.mapSeq (·.setIfInBounds j x) { cls := .type "list", data := .seq its n } = { cls := .type "list", data := .seq (its.setIfInBounds j x) n } := by
 simp [Obj.mapSeq]
theorem setItemPlain {A : Around} {l : Addr} {items : Array Value} {i : Int} {t : Tok} {v : Value} {Q : Unit → Shared → Prop} {E : Value → Shared → Prop} (hl : s.heap.PlainList l items) (h0 : 0 ≤ i) (hfit : i < 2 ^ 63) (hn : i < items.size)
 (hQ : ∀ h', h'.PlainList l (items.setIfInBounds i.toNat v) → Heap.SameBut l s.heap h' → Q () { s with heap := h' }) : wpAny (model C.prog C.w) A (setItem (.ref l) (.int i t) v) Q E s := by
 obtain ⟨ne, ho⟩ := id hl
 have hT : s.TypeIs (.ref l) "list" := ⟨_, ho, rfl⟩
 unfold setItem
 refine wpAny_holding ?_
 refine wpAny_bind (wpAny_sequenceKey hT (by decide) ?_)
 refine wpAny_bind (wpAny_callSpecial?_slot (name := Str.ofString "__setitem__") hT slot_list_setitem
  (wpAny_call_entry slot_list_setitem hT entry_list_setitem ?_ (args_list_setitem _ _ _)))
 show wpAny _ _ (Builtin.List.listSubscript? (.int i t) >>= _) _ _ s
 refine wpAny_bind (wpAny_listSubscript_int (fitsIndex_of h0 hfit) ?_)
 clear hfit
 obtain ⟨j, rfl⟩ := Int.eq_ofNat_of_zero_le h0
 have hj : j < items.size := by omega
 have hx' : items[j]? = some items[j] := Array.getElem?_eq_getElem hj
 show wpAny _ _ ((seqItemAt l j >>= fun r => pure (r.map (j, ·))) >>= _) _ _ s
 refine wpAny_bind (wpAny_bind (wpAny_seqItemAt ho rfl (wpAny_pure ?_)))
 rw [hx']
 show wpAny _ _ (setSeqItemAt l j v >>= _) _ _ s
 have hfin : (s.heap.update l (Obj.mapSeq (·.setIfInBounds j v))).PlainList l (items.setIfInBounds j v) :=
  ⟨ne, by rw [Heap.get?_update_self _ ho (by rw [mapSeq_set _ _ _ _ hj]; rfl), mapSeq_set _ _ _ _ hj]⟩
 refine wpAny_bind (wpAny_setSeqItemAt ho rfl ?_)
 first
  | exact wpAny_bind (wpAny_pure (wpAny_pure ⟨.none, rfl, wpAny_pure (hQ _ hfin (Heap.SameBut.update ..))⟩))
  | exact wpAny_pure ⟨.none, rfl, wpAny_pure (hQ _ hfin (Heap.SameBut.update ..))⟩
theorem Ex.setItem {x : Str} {px sp pos : Pos} {ie e : Expr} {xs : List PV} {p : PV} {i : Int} (hx : ρ x = some (.ol xs)) (he : Ev C k env ρ e (.fr p)) (hi : ∀ b, Ev C k env (upd ρ x (.oa b xs)) ie (.fr (.int i))) (h0 : 0 ≤ i) (hfit : i < 2 ^ 63) (hn : i < xs.length)
 (hd : (x == ("__debug__" : Str)) = false := by decide)
 (hs : swapsWith e (some (.Subscript (.Name x px) ie sp)) pos.line env = pure false := by rfl) :
 Ex C k env ρ (.Assign [.Subscript (.Name x px) ie sp] e pos) .next (upd ρ x (.ol (xs.set i.toNat p))) := .mk fun A kk fk tmp s Q E R W S H =>
 wpAny_Assign_Subscript (he.run A kk fk tmp s _ E R S fun w s1 S1 => by
  obtain ⟨b, T⟩ := S1.tellL hx
  refine x40 (id T) fun kp m own tow D => ?_
  refine x11 (D.vars x _ uq) fun v hv r => ?_
  obtain rfl := hasAddr.oa _ _ _ _ _ r
  refine D.name hv ?_ hd
  refine (hi b).run A kk fk _ s1 _ E R T fun iv s2 S2 => ?_
  refine x40 S2 fun kp2 m2 own2 tow2 D2 => ?_; clear S2
  refine x12 D2.top fun tow3 _ hpi D3 => ?_
  refine x12 D3.top fun tow4 _ hp D4 => ?_
  obtain ⟨t, rfl⟩ := hpi.int_inv
  refine x11 (D4.vars x _ uq) fun v2 hv2 r2 => ?_
  generalize hq2 : own2 x = ow2 at r2
  cases r2 with
  | @oa _ _ vs2 hl2 hs2 =>
  have hlen := hs2.length
  simp at hlen
  refine setItemPlain hl2 h0 hfit (by omega) fun h' hl' hsb => ?_
  have setR : ∀ {ps : List PV} {vs : List Value} {j : Nat}, Rps kp2 ps vs → Rps kp2 (ps.set j p) (vs.set j w) := by
   intro ps vs j h
   induction j generalizing ps vs with
   | zero => cases h with
    | nil => exact .nil
    | cons a b => exact .cons hp b
   | succ j ih => cases h with
    | nil => exact .nil
    | cons a b => exact .cons a (ih b)
  have M := D4.modVar (l' := .ol (xs.set i.toNat p)) uq hv2 (h' := h') (tk := s2.toks) (fun c o hc e => (hsb.2 c (fun q => hc (by rw [hq2, q]; simp))).trans e) (by rw [hq2]; exact .ol hl' (by simpa using setR (j := i.toNat) hs2))
  rw [upd_upd] at M
  exact H _ ⟨kp2, m2, own2, tow4, M⟩) hs
end
section
variable {C : Cx} {k : Nat} {kk fk : PH} {env : Env} {ρ ρ' ρ1 ρ2 : Rho} {tmp : List (Loc × LV)} {s : Shared} {K : Frag} {Kc : Addr}
theorem Sim.unconsMany {p : PV} {v : Value} {ps : List PV} {vs : List Value} (S : Sim C kk fk env ρ ((.many (p :: ps), .many (v :: vs)) :: tmp) s) : Sim C kk fk env ρ ((.fr p, .one v) :: (.many ps, .many vs) :: tmp) s := by
 refine x40 S fun kp m own tow D => ?_; clear S
 refine x12 D.topMany fun tow' _ hp D' => ?_
 cases hp with
 | cons a b =>
  have E : SimD C kk fk env ρ ((.many ps, .many vs) :: tmp) s kp m own ([] :: tow') := { D' with tmps := .cons (.many b) D'.tmps, free := fun x h => D'.free x (by simpa using h), apartT := fun x y h e => D'.apartT x y h (by simpa using e), towN := by simpa using D'.towN }
  exact ⟨kp, m, own, _, E.pushFr a⟩
structure AsL (C : Cx) (k : Nat) (env : Env) (ρ : Rho) (elts : List Expr) (ps : List PV) (ρ' : Rho) : Prop where
 run : ∀ (A : Around) (kk fk : PH) (tmp : List (Loc × LV)) (vs : List Value) (s : Shared) (Q : Unit → Shared → Prop) (E : Value → Shared → Prop), Rm A k → Wf fk env → Sim C kk fk env ρ ((.many ps, .many vs) :: tmp) s → (∀ s', Sim C kk fk env ρ' tmp s' → Q () s') → wpAny (model C.prog C.w) A (assignInOrder ((assignEach elts env).map (·.2)) vs) Q E s
theorem AsL.nil : AsL C k env ρ [] [] ρ := .mk fun A kk fk tmp vs s Q E R W S H => by
 have := S.manyLen
 cases vs with
 | nil => exact assignInOrder_nil (H s S.pop)
 | cons _ _ => cases this
theorem AsL.cons {e : Expr} {es : List Expr} {p : PV} {ps : List PV} (h1 : As C k env ρ e p ρ1) (h2 : AsL C k env ρ1 es ps ρ') (he : (assignEach (e :: es) env).map (·.2) = assign e env :: (assignEach es env).map (·.2) := by rfl) : AsL C k env ρ (e :: es) (p :: ps) ρ' := .mk fun A kk fk tmp vs s Q E R W S H => by
 have := S.manyLen
 cases vs with
 | nil => cases this
 | cons v vs =>
  rw [he]
  exact assignInOrder_cons (h1.run A kk fk _ v s _ E R W S.unconsMany fun s1 S1 => h2.run A kk fk tmp vs s1 Q E R W S1 H)
theorem As.tup {elts : List Expr} {n : Nat} {pos : Pos} {ps : List PV} (h : AsL C k env ρ elts ps ρ') (hn : (assignEach elts env).length = ps.length := by rfl) (hs : (assignEach elts env).findIdx? (·.1) = none := by rfl) : As C k env ρ (.Tuple elts n pos) (.tup ps) ρ' := .mk fun A kk fk tmp v s Q E R W S H => by
 refine x40 S fun kp m own tow D => ?_; clear S
 refine x12 D.top fun tow' _ hp D' => ?_
 refine x44 hp.tup_inv fun a o vs z z1 hk hc hd hr => ?_; subst z1
 have ht : IsTup s.heap a vs := ⟨o, D.kept _ _ hk, hc, z, hd⟩
 have hl := hr.length
 simp at hl
 refine assign_Tuple_tuple R.handled ht (by rw [hn, hl]) hs fun h' he => ?_
 have G := D'.grow (h' := h') (tk := s.toks) fun b o e => he b o (Nat.ne_of_lt (Heap.lt_size e)) e
 exact h.run A kk fk tmp vs.toList _ Q E R W ⟨kp, m, own, [] :: tow', { G with tmps := .cons (.many hr) G.tmps, free := fun x h => G.free x (by simpa using h), apartT := fun x y h e => G.apartT x y h (by simpa using e), towN := by simpa using G.towN }⟩ H
theorem Ex.assignTup {elts : List Expr} {n : Nat} {tp pos : Pos} {e : Expr} {p : PV} (h : Ev C k env ρ e (.fr p)) (ha : As C k env ρ (.Tuple elts n tp) p ρ') (hs : swapsWithSole [.Tuple elts n tp] e pos.line env = pure false := by rfl)
 (hw : swappedStores [.Tuple elts n tp] e env = pure none := by rfl) : Ex C k env ρ (.Assign [.Tuple elts n tp] e pos) .next ρ' := .mk fun A kk fk tmp s Q E R W S H =>
 Assign_Tuple (h.run A kk fk tmp s _ E R S fun v s1 S1 => ha.run A kk fk tmp v s1 _ E R W S1 fun s2 S2 => H s2 S2) hs hw
theorem Sim.dup {p : PV} {v : Value} (S : Sim C kk fk env ρ ((.fr p, .one v) :: tmp) s) : Sim C kk fk env ρ ((.fr p, .one v) :: (.fr p, .one v) :: tmp) s := by
 refine x40 S fun kp m own tow D => ?_; clear S
 refine x12 D.top fun tow' _ hp D' => ?_
 exact ⟨kp, m, own, _, D.pushFr hp⟩
theorem Ex.assign3 {x y z : Str} {px py pz pos : Pos} {e : Expr} {p : PV} (h : Ev C k env ρ e (.fr p)) (hx : Stores env x) (hy : Stores env y) (hz : Stores env z)
 (he : (assignEach [.Name x px, .Name y py, .Name z pz] env).map (·.2) = [PySem.assign (.Name x px) env, PySem.assign (.Name y py) env, PySem.assign (.Name z pz) env] := by rfl)
 (hw : swappedStores [.Name x px, .Name y py, .Name z pz] e env = pure none := by rfl) : Ex C k env ρ (.Assign [.Name x px, .Name y py, .Name z pz] e pos) .next (upd (upd (upd ρ x (.fr p)) y (.fr p)) z (.fr p)) := .mk fun A kk fk tmp s Q E R W S H =>
 wpAny_Assign_three (h.run A kk fk tmp s _ E R S fun v s1 S1 => (As.name (k := k) hx).run A kk fk _ v s1 _ E R W S1.dup fun s2 S2 => (As.name (k := k) hy).run A kk fk _ v s2 _ E R W S2.dup fun s3 S3 => (As.name (k := k) hz).run A kk fk _ v s3 _ E R W S3 fun s4 S4 => H s4 S4) he hw
theorem Ev.chain2 {l r1 r2 : Expr} {o1 o2 : CmpOp} {pos : Pos} {a b c : PV} {x : Bool} {y : PV} (hl : Ev C k env ρ l (.fr a)) (h1 : Ev C k env ρ r1 (.fr b)) (h2 : x = true → Ev C k env ρ r2 (.fr c)) (p1 : P2 C k (compareOp o1) a b (.fr (.bool x))) (p2 : x = true → P2 C k (compareOp o2) b c (.fr y)) (hy : x = false → y = .bool false)
 (hm : lastMarks [o1, o2] [r1, r2] = false := by with_unfolding_all rfl) : Ev C k env ρ (.Compare l [o1, o2] [r1, r2] pos) (.fr y) := .mk fun A kk fk tmp s Q E R S H =>
 Compare_chain (hl.run A kk fk tmp s _ E R S fun va s1 S1 => chain_link (h1.run A kk fk _ s1 _ E R S1 fun vb s2 S2 => p1.run A kk fk env ρ _ va vb s2 _ E R S2.dup.turn3 fun vx s3 S3 => by
  refine x12 S3.top fun kp hx _ S4 => ?_
  obtain rfl := hx.bool_inv
  refine wpAny_truthy_bool ?_
  cases x with
  | false => 
   obtain rfl := hy rfl
   exact H _ s3 (S4.pop.pushImm fun _ => .bool _)
  | true => exact chain_last ((h2 rfl).run A kk fk _ s3 _ E R S4 fun vc s5 S5 => (p2 rfl).run A kk fk env ρ tmp vb vc s5 Q E R S5 H))) hm
inductive WLoop (C : Cx) (k : Nat) (env : Env) (t : Expr) (body : List Stmt) : Rho → Out → Rho → Prop
 | done {ρ : Rho} (h : Ts C k env ρ t false) : WLoop C k env t body ρ .next ρ
 | next {ρ ρ1 ρ2 : Rho} {o : Out} (h : Ts C k env ρ t true) (hb : Exs C k env ρ body .next ρ1) (hr : WLoop C k env t body ρ1 o ρ2) : WLoop C k env t body ρ o ρ2
 | brk {ρ ρ1 : Rho} (h : Ts C k env ρ t true) (hb : Exs C k env ρ body .brk ρ1) : WLoop C k env t body ρ .next ρ1
 | ret {ρ ρ1 : Rho} {l : Loc} (h : Ts C k env ρ t true) (hb : Exs C k env ρ body (.ret l) ρ1) : WLoop C k env t body ρ (.ret l) ρ1
inductive WLoopN (C : Cx) (k : Nat) (env : Env) (t : Expr) (body : List Stmt) : Nat → Rho → Out → Rho → Prop
 | done {n : Nat} {ρ : Rho} (h : Ts C k env ρ t false) : WLoopN C k env t body n ρ .next ρ
 | next {n : Nat} {ρ ρ1 ρ2 : Rho} {o : Out} (h : Ts C k env ρ t true) (hb : Exs C k env ρ body .next ρ1) (hr : WLoopN C k env t body n ρ1 o ρ2) : WLoopN C k env t body (n + 1) ρ o ρ2
 | brk {n : Nat} {ρ ρ1 : Rho} (h : Ts C k env ρ t true) (hb : Exs C k env ρ body .brk ρ1) : WLoopN C k env t body n ρ .next ρ1
 | ret {n : Nat} {ρ ρ1 : Rho} {l : Loc} (h : Ts C k env ρ t true) (hb : Exs C k env ρ body (.ret l) ρ1) : WLoopN C k env t body n ρ (.ret l) ρ1
theorem WLoop.counted {t : Expr} {body : List Stmt} {o : Out} (h : WLoop C k env t body ρ o ρ') : ∃ n, WLoopN C k env t body n ρ o ρ' := by
 induction h with
 | done h => exact ⟨0, .done h⟩
 | next h hb hr ih => obtain ⟨n, q⟩ := ih; exact ⟨n + 1, .next h hb q⟩
 | brk h hb => exact ⟨0, .brk h hb⟩
 | ret h hb => exact ⟨0, .ret h hb⟩
theorem codeWhile {t : Expr} {body : List Stmt} {A : Around} {R : Result → Shared → Prop} (RA : Rm A k) (W : Wf fk env) {o : Out} (hl : WLoop C k env t body ρ o ρ') (S : Sim C kk fk env ρ tmp s) (H : OutQ C kk fk env ρ' tmp (fun f s' => R (.ok f) s') o) :
 codeAny (model C.prog C.w) A (.whileLoop t body [] env) R s := by
 obtain ⟨n, hn⟩ := hl.counted
 refine codeAny_whileLoop (fun n s' => ∃ ρ, WLoopN C k env t body n ρ o ρ' ∧ Sim C kk fk env ρ tmp s') ?_ n ⟨ρ, hn, S⟩
 rintro n s' ⟨ρ, hl, S⟩
 cases hl with
 | done h => exact h.run A kk fk tmp s' _ _ RA S fun s1 S1 => wpAny_execs_nil (H s1 S1)
 | next h hb hr => exact h.run A kk fk tmp s' _ _ RA S fun s1 S1 => hb.run A kk fk tmp s1 _ _ RA W S1 fun s2 S2 => ⟨_, Nat.lt_succ_self _, _, hr, S2⟩
 | brk h hb => exact h.run A kk fk tmp s' _ _ RA S fun s1 S1 => hb.run A kk fk tmp s1 _ _ RA W S1 fun s2 S2 => H s2 S2
 | ret h hb => exact h.run A kk fk tmp s' _ _ RA S fun s1 S1 => hb.run A kk fk tmp s1 _ _ RA W S1 fun v s2 S2 => H v s2 S2
theorem Ex.while_ {t : Expr} {body : List Stmt} {pos : Pos} {o : Out} (hl : WLoop C k env t body ρ o ρ') : Ex C k env ρ (.While t body [] pos) o ρ' := .mk fun A kk fk tmp s Q E R W S H =>
 wpAny_While (codeWhile R W hl S (by cases o <;> exact H))
theorem Rm.under {A : Around} (h : Rm A (k + 1)) (c : Addr) (vs : List Value) (kw : List (Str × Value)) : Rm (A.under (.builtin "type.__call__" ⟨.ref c :: vs, kw⟩)) k := by
 have e1 : (A.under (.builtin "type.__call__" ⟨.ref c :: vs, kw⟩)).depth = A.depth + 1 := rfl
 have e2 : (A.under (.builtin "type.__call__" ⟨.ref c :: vs, kw⟩)).units = A.units + 1 := rfl
 have h1 := h.depth
 have h2 := h.units
 exact ⟨h.handled, by rw [e1]; omega, by rw [e2]; omega⟩
theorem Ev.new {f e : Expr} {es : List Expr} {pos : Pos} {fI : Addr} {fd : FuncData} {body : List Stmt} {names : List Str} {args bps : List PV} {ns : List Str} {ps : List PV} (hf : Ev C (k + 2) env ρ f (.fr (.con (.ref Kc)))) (ha : EvL C (k + 2) env ρ (e :: es) args) (X : K.In C.h₀) (O : ClsOk K Kc)
 (hk : keepIn K (.ref Kc) = true) (hi : findIn K (.ref Kc) "__init__" = some (some (.ref fI))) (ht : typeIn K (.ref fI) = some (.type "function"))
 (F : IsDef C fI fd names body) (hb : ∀ a, Binds C fd (.con (.ref a) :: args) [] [] names (.con (.ref a) :: bps)) (hl : names.length = bps.length + 1)
 (h : ∀ L a, BodyW C k (callEnvC fd L fI) (bindR (names.zip (.con (.ref a) :: bps)) fun _ => none) (.ins (some a) Kc [] []) (.one (.ref a)) body (.fr .none) (.ins (some a) Kc ns ps))
 (hc : eval (.Call f (e :: es) [] pos) env = (do callWith pos (← eval f env) [] (backTo pos (starEach (e :: es) env)) (backToKw pos (keywordEach [] env))) := by rfl)
 (he : starEach (e :: es) env = (false, eval e env) :: starEach es env := by rfl) (hplain : (backTo pos (starEach es env)).any (·.1) = false := by rfl) : Ev C (k + 2) env ρ (.Call f (e :: es) [] pos) (.ins none Kc ns ps) := .mk fun A kk fk tmp s Q E R S H =>
 Call_ (hf.run A kk fk tmp s _ E R S fun vf s1 S1 => by
  refine x12 S1.top fun kp hr _ S1' => ?_
  obtain rfl := hr.con_inv
  refine callWith_K (S1'.frag X) hk (ha.run pos A kk fk tmp s1 _ E R S1' fun vs s2 S2 => ⟨S2.frag X, wpAny_call ?_⟩) he hplain
  obtain ⟨hh, g, d, t, os⟩ := s2
  have Xs : K.In hh := S2.frag X
  refine make_core (makes_of Xs O.makes) (looks_findIn Xs hi) (fun self => bind_fn Xs self ht) (.inl rfl) ?_
  refine x40 S2 fun kp2 m2 own2 tow2 D2 => ?_; clear S2
  refine x12 D2.topMany fun tow3 _ hps D3 => ?_
  have g1 : ((hh.push emptyDict).push (instObj Kc hh.objs.size)).get? (hh.objs.size + 1) = some (instObj Kc hh.objs.size) := by
   have := Heap.get?_push_size (hh.push emptyDict) (o := instObj Kc hh.objs.size) rfl
   rwa [Heap.size_push] at this
  have g2 : ((hh.push emptyDict).push (instObj Kc hh.objs.size)).get? hh.objs.size = some emptyDict := Heap.get?_push_of_some _ (Heap.get?_push_size _ rfl)
  have dead : ∀ b, hh.objs.size ≤ b → hh.get? b = none := fun b hb => by
   cases e : hh.get? b with
   | none => rfl
   | some o => exact absurd (Heap.lt_size e) (Nat.not_lt.mpr hb)
  have D4 := D3.pushOwn (h' := (hh.push emptyDict).push (instObj Kc hh.objs.size)) (tk := t) (l := .ins (some (hh.objs.size + 1)) Kc [] []) (v := .one (.ref (hh.objs.size + 1))) (ow := [hh.objs.size + 1, hh.objs.size]) (fun b o e => Heap.get?_push_of_some _ (Heap.get?_push_of_some _ e))
   (.ins (vs := []) (fun b e => by obtain rfl := si e; rfl) g1 ⟨_, #[], 0, g2, rfl, fun e he => by simp at he, fun n => by simp [nsFind, findBy], by simp⟩ .nil rfl (Nat.succ_ne_self _)) (by simp)
   (fun b hb => by simp at hb; rcases hb with rfl | rfl <;> exact dead _ (by omega))
  have S5 : Sim C kk fk env ρ ((.many [], .many []) :: (.many (.con (.ref (hh.objs.size + 1)) :: args), .many (.ref (hh.objs.size + 1) :: vs)) :: (.ins (some (hh.objs.size + 1)) Kc [] [], .one (.ref (hh.objs.size + 1))) :: tmp) ⟨(hh.push emptyDict).push (instObj Kc hh.objs.size), g, d, t, os⟩ := by
   have kmono : Rps kp2 args vs := hps
   have q : SimD C kk fk env ρ ((.many (.con (.ref (hh.objs.size + 1)) :: args), .many (.ref (hh.objs.size + 1) :: vs)) :: (.ins (some (hh.objs.size + 1)) Kc [] [], .one (.ref (hh.objs.size + 1))) :: tmp) ⟨(hh.push emptyDict).push (instObj Kc hh.objs.size), g, d, t, os⟩ kp2 m2 own2 ([] :: [hh.objs.size + 1, hh.objs.size] :: tow3) :=
    { D4 with tmps := .cons (.many (.cons (.con _) hps)) D4.tmps, free := fun x h => D4.free x (by simpa using h), apartT := fun x y h e => D4.apartT x y h (by simpa using e), towN := by simpa using D4.towN }
   exact Sim.nilMany ⟨kp2, m2, own2, _, q⟩
  exact callRun (kn := []) (ks := []) F (R.under _ _ _) (hb _) (by simpa using hl) (fun L => h L _) S5 fun v s' S' => ⟨by refine x12 S'.top fun _ q _ _ => ?_; exact q.none_inv, by
   have P := S'.pop
   refine x40 P fun kp6 m6 own6 tow6 D6 => ?_; clear P
   refine H _ s' ⟨kp6, m6, own6, tow6, { D6 with tmps := ?_ }⟩
   refine x22 D6.tmps.inv fun _ _ z1 r1 r2 => ?_; subst z1
   refine x37 r1.ins_inv fun _ _ _ e1 z1 q1 q2 q3 q4 q5 q6 => ?_; subst z1
   cases e1
   exact .cons (.ins (fun b e => by exact no e) q2 q3 q4 q5 q6) r2⟩) hc
end
section
variable {C : Cx} {k : Nat} {kk fk : PH} {env : Env} {ρ ρ' ρ1 ρ2 : Rho} {tmp : List (Loc × LV)} {s : Shared} {K : Frag} {Kc : Addr}
theorem Ev.callT {f : Expr} {e : Expr} {es : List Expr} {pos : Pos} {T : String} {ps : List PV} {l : Loc} (hf : Ev C k env ρ f (.fr (.con (.type T)))) (ha : EvL C k env ρ (e :: es) ps) (h : PN C k (.type T) ps l)
 (hc : eval (.Call f (e :: es) [] pos) env = (do callWith pos (← eval f env) [] (backTo pos (starEach (e :: es) env)) (backToKw pos (keywordEach [] env))) := by rfl)
 (he : starEach (e :: es) env = (false, eval e env) :: starEach es env := by rfl) (hplain : (backTo pos (starEach es env)).any (·.1) = false := by rfl) :
 Ev C k env ρ (.Call f (e :: es) [] pos) l := .mk fun A kk fk tmp s Q E R S H =>
 Call_ (hf.run A kk fk tmp s _ E R S fun vf s1 S1 => by
  refine x12 S1.top fun kp hr _ S1' => ?_
  obtain rfl := hr.con_inv
  exact PyProof.Rows.callWith_type1 (ha.run pos A kk fk tmp s1 _ E R S1' fun vs s2 S2 => h.run A kk fk env ρ tmp vs s2 Q E R S2 H) he hplain) hc
theorem typeOfStr {A : Around} {x : Str} {t : Tok} {Q : Value → Shared → Prop} {E : Value → Shared → Prop} (h : Q (.type "str") s) : wpAny (model C.prog C.w) A (call (.type "type") [.str x t]) Q E s := by
 refine wpAny_call (codeAny_of_tree ?_)
 show wpAny _ _ (callAny (.type "type") ⟨[.str x t], []⟩) _ _ _
 simp only [callAny]
 refine wpAny_pure ⟨Code.quiet_builtin _ (by decide +kernel), codeAny_builtin entry_type_call ?_⟩
 unfold Builtin.«type.__call__»
 dsimp only
 unfold shownTypeOf
 repeat (first | wp_step)
 exact h
theorem PN.typeStr {x : Str} : PN C k (.type "type") [.str x] (.fr (.con (.type "str"))) := .mk fun A kk fk env ρ tmp vs s Q E R S H => by
 refine x40 S fun kp m own tow D => ?_; clear S
 refine x12 D.topMany fun tow' _ hp D' => ?_
 cases hp with
 | cons a b =>
 cases b with
 | nil =>
 obtain ⟨t, rfl⟩ := a.str_inv
 exact typeOfStr (H _ s ⟨kp, m, own, _, D'.pushFr (.con _)⟩)
theorem P2.isType {X Y : String} : P2 C k (compareOp .Is) (.con (.type X)) (.con (.type Y)) (.fr (.bool (Value.type X == Value.type Y))) := .mk fun A kk fk env ρ tmp va vb s Q E R S H => by
 refine x12 S.top fun kp hb _ S1 => ?_
 refine x12 S1.top fun kp' ha _ S2 => ?_
 obtain rfl := ha.con_inv
 obtain rfl := hb.con_inv
 exact wpAny_is_plain (by rfl) (H _ s (S2.pushImm fun _ => .bool _))
theorem P2.isNotNone {p : PV} {b : Bool} (hb : ∀ kp v, Rp kp p v → (!(v == .none)) = b) : P2 C k (compareOp .IsNot) p .none (.fr (.bool b)) := .mk fun A kk fk env ρ tmp va vb s Q E R S H => by
 refine x12 S.top fun kp hn _ S1 => ?_
 refine x12 S1.top fun kp' ha _ S2 => ?_
 obtain rfl := hn.none_inv
 exact isNot_none (H _ s (by rw [hb _ _ ha]; exact S2.pushImm fun _ => .bool _))
theorem P2.isNotNoneRef {a : Addr} : P2 C k (compareOp .IsNot) (.con (.ref a)) .none (.fr (.bool true)) := .isNotNone fun kp v h => by obtain rfl := h.con_inv; rfl
theorem P2.isNotNoneStr {x : Str} : P2 C k (compareOp .IsNot) (.str x) .none (.fr (.bool true)) := .isNotNone fun kp v h => by obtain ⟨t, rfl⟩ := h.str_inv; rfl
theorem P2.isNotNoneNone : P2 C k (compareOp .IsNot) .none .none (.fr (.bool false)) := .isNotNone fun kp v h => by obtain rfl := h.none_inv; rfl
theorem Ev.typeOwn {f : Expr} {x y : Str} {px pos : Pos} {a b : Addr} (hf : Ev C k env ρ f (.fr (.con (.type "type")))) (hy : ρ y = some (.hz a b Kc)) (hx : ρ x = some (.fr (.con (.ref b))))
 (hd : (x == ("__debug__" : Str)) = false := by decide)
 (hc : eval (.Call f [.Name x px] [] pos) env = (do callWith pos (← eval f env) [] (backTo pos (starEach [.Name x px] env)) (backToKw pos (keywordEach [] env))) := by rfl)
 (he : starEach [.Name x px] env = (false, eval (.Name x px) env) :: starEach [] env := by rfl) : Ev C k env ρ (.Call f [.Name x px] [] pos) (.fr (.con (.type "list"))) := .mk fun A kk fk tmp s Q E R S H =>
 Call_ (hf.run A kk fk tmp s _ E R S fun vf s1 S1 => by
  refine x12 S1.top fun kp hr _ S1' => ?_
  obtain rfl := hr.con_inv
  refine PyProof.Rows.callWith_type1 ((EvL.cons (Ev.name hx hd) EvL.nil he).run pos A kk fk tmp s1 _ E R S1' fun vs s2 S2 => ?_) he rfl
  refine x40 S2 fun kp m own tow D => ?_; clear S2
  refine x12 D.topMany fun tow' _ hp D' => ?_
  cases hp with
  | cons p1 p2 =>
  cases p2 with
  | nil =>
  obtain rfl := p1.con_inv
  refine x11 (D'.vars y _ hy) fun v hv r => ?_
  generalize hq : own y = ow at r
  obtain ⟨dx, rfl, rfl, ha, hin, hl, hne⟩ := r.hz_inv
  obtain ⟨n, hl⟩ := hl
  obtain ⟨hh, g, d, t, os⟩ := s2
  exact call_type_obj hl (by rfl) (H _ _ ⟨kp, m, own, _, D'.pushFr (.con _)⟩)) hc
theorem Ex.setOwn {x y n : Str} {px py ap pos : Pos} {a b : Addr} (hx : ρ x = some (.hz a b Kc)) (hy : ρ y = some (.fr (.con (.ref b)))) (X : K.In C.h₀) (O : ClsOk K Kc) (hn : findIn K (.ref Kc) n = some none)
 (hd : (x == ("__debug__" : Str)) = false := by decide) (hdy : (y == ("__debug__" : Str)) = false := by decide)
 (hs : swapsWith (.Name y py) (some (.Attribute (.Name x px) n ap)) pos.line env = pure false := by rfl) : Ex C k env ρ (.Assign [.Attribute (.Name x px) n ap] (.Name y py) pos) .next (upd ρ x (.hd (some (a, b)) Kc n [])) := .mk fun A kk fk tmp s Q E R W S H =>
 plainObj_wpAny_Assign_Attribute ((Ev.name (k := k) hy hdy).run A kk fk tmp s _ E R S fun v s1 S1 => by
  refine x40 S1 fun kp m own tow D => ?_; clear S1
  refine x12 D.top fun tow' _ hp D' => ?_
  obtain rfl := hp.con_inv
  refine x11 (D'.vars x _ hx) fun w hw r => ?_
  refine D'.name hw ?_ hd
  generalize hq : own x = ow at r
  obtain ⟨dx, rfl, rfl, ha, hin, hl, hne⟩ := r.hz_inv
  have h1 : a ≠ dx := fun q => by simp [q] at hne
  have h2 : b ≠ dx := fun q => by simp [q] at hne
  refine setAttr_own (X.keeps fun b o e => D.kept _ _ (D.le _ _ (D.base _ _ e))) O hn ha hin (by decide) fun h' tk hin' hsb => H _ ⟨kp, m, own, _, D'.modVar hx hw (h' := h') (tk := tk) (fun b o hb e => (hsb.2 b fun q => hb (by rw [hq, q]; simp)).trans e) ?_⟩
  rw [hq]
  exact .hd (vs := #[]) (fun c e => by obtain rfl := si e; rfl) ((hsb.2 a h1).trans ha) hin' (hl.at fun o e => (hsb.2 b h2).trans e) .nil hne) hs
theorem Ex.forEmptyOwn {x y fl : Str} {px pos : Pos} {t : Expr} {body : List Stmt} {q : Option Addr} {a b : Addr} (hy : ρ y = some (.hd (some (a, b)) Kc fl [])) (hx : ρ x = some (.fr (.con (.ref b)))) (hd : (x == ("__debug__" : Str)) = false := by decide)
 (hs : ∀ z, foldedSetIterable (.Name x px) env z = pure z := by intro _; rfl) : Ex C k env ρ (.For t (.Name x px) body [] pos) .next ρ := .mk fun A kk fk tmp s Q E R W S H =>
 wpAny_For ((Ev.name (k := k) hx hd).run A kk fk tmp s _ E R S fun v s1 S1 => by
  refine x40 S1 fun kp m own tow D => ?_; clear S1
  refine x12 D.top fun tow' _ hp D' => ?_
  obtain rfl := hp.con_inv
  refine x11 (D'.vars y _ hy) fun w hw r => ?_
  generalize hq : own y = ow at r
  refine x47 r.hd_inv fun a' dx b' vs z1 z2 hq' ha hin hl hs' hne => ?_; subst z1; subst z2
  obtain ⟨rfl, rfl⟩ := Prod.mk.inj (hq' (a, b) rfl)
  have hv0 : vs = #[] := by have := hs'.length; simpa using this
  subst hv0
  have hl := hl.isList
  have hb : b ≠ s1.heap.objs.size := by refine x11 hl fun o ho _ => ?_; clear hl; exact Nat.ne_of_lt (Heap.lt_size ho)
  refine wpAny_pyIter_list hl ?_
  refine codeAny_forLoop_any (fun n s' => s' = { s1 with heap := s1.heap.push { cls := .type "list_iterator", data := .fields #[.ref b, .int 0 0] } }) ?_ 0 rfl
  rintro n s' rfl
  refine wpAny_pyNext_list_end (it := s1.heap.objs.size) (l := b) (i := 0) R.handled ⟨_, Heap.get?_push_size _ rfl, rfl, rfl⟩ (hl.push _) (by simp) fun h' he => ?_
  refine wpAny_execs_nil (H _ ⟨kp, m, own, tow', D'.grow (h' := h') (tk := s1.toks) fun c o e => he c o (Nat.ne_of_lt (Heap.lt_size e)) (Heap.get?_push_of_some _ e)⟩)) hs
end
section
variable {C : Cx} {k : Nat} {kk fk : PH} {env : Env} {ρ ρ' ρ1 ρ2 : Rho} {tmp : List (Loc × LV)} {s : Shared} {K : Frag} {Kc : Addr}
theorem Ev.newH {f e : Expr} {pos : Pos} {fI : Addr} {fd : FuncData} {body : List Stmt} {names : List Str} {bps : List PV} {fl : Str} (hf : Ev C (k + 2) env ρ f (.fr (.con (.ref Kc)))) (ha : Ev C (k + 2) env ρ e (.ol [])) (X : K.In C.h₀) (O : ClsOk K Kc)
 (hk : keepIn K (.ref Kc) = true) (hi : findIn K (.ref Kc) "__init__" = some (some (.ref fI))) (ht : typeIn K (.ref fI) = some (.type "function"))
 (F : IsDef C fI fd names body) (hb : ∀ a b, Binds C fd [.con (.ref a), .con (.ref b)] [] [] names [.con (.ref a), .con (.ref b)]) (hl : names.length = 2)
 (h : ∀ L a b, BodyW C k (callEnvC fd L fI) (bindR (names.zip [.con (.ref a), .con (.ref b)]) fun _ => none) (.hz a b Kc) (.one (.ref a)) body (.fr .none) (.hd (some (a, b)) Kc fl []))
 (hc : eval (.Call f [e] [] pos) env = (do callWith pos (← eval f env) [] (backTo pos (starEach [e] env)) (backToKw pos (keywordEach [] env))) := by rfl)
 (he : starEach [e] env = (false, eval e env) :: starEach [] env := by rfl) : Ev C (k + 2) env ρ (.Call f [e] [] pos) (.hd none Kc fl []) := .mk fun A kk fk tmp s Q E R S H =>
 Call_ (hf.run A kk fk tmp s _ E R S fun vf s1 S1 => by
  refine x12 S1.top fun kp hr _ S1' => ?_
  obtain rfl := hr.con_inv
  refine callWith_K (S1'.frag X) hk (wpAny_items_cons (ha.run A kk fk tmp s1 _ E R S1' fun v s2 S2 => wpAny_items_nil ⟨S2.frag X, wpAny_call ?_⟩) he) he rfl
  obtain ⟨hh, g, d, t, os⟩ := s2
  have Xs : K.In hh := S2.frag X
  refine make_core (makes_of Xs O.makes) (looks_findIn Xs hi) (fun self => bind_fn Xs self ht) (.inl rfl) ?_
  refine x40 S2 fun kp2 m2 own2 tow2 D2 => ?_; clear S2
  have g1 : ((hh.push emptyDict).push (instObj Kc hh.objs.size)).get? (hh.objs.size + 1) = some (instObj Kc hh.objs.size) := by
   have := Heap.get?_push_size (hh.push emptyDict) (o := instObj Kc hh.objs.size) rfl
   rwa [Heap.size_push] at this
  have g2 : ((hh.push emptyDict).push (instObj Kc hh.objs.size)).get? hh.objs.size = some emptyDict := Heap.get?_push_of_some _ (Heap.get?_push_size _ rfl)
  have dead : ∀ b, hh.objs.size ≤ b → hh.get? b = none := fun b hb => by
   cases e : hh.get? b with
   | none => rfl
   | some o => exact absurd (Heap.lt_size e) (Nat.not_lt.mpr hb)
  have D4 := D2.pushOwn (h' := (hh.push emptyDict).push (instObj Kc hh.objs.size)) (tk := t) (l := .ins (some (hh.objs.size + 1)) Kc [] []) (v := .one (.ref (hh.objs.size + 1))) (ow := [hh.objs.size + 1, hh.objs.size]) (fun b o e => Heap.get?_push_of_some _ (Heap.get?_push_of_some _ e))
   (.ins (vs := []) (fun b e => by obtain rfl := si e; rfl) g1 ⟨_, #[], 0, g2, rfl, fun e he => by simp at he, fun n => by simp [nsFind, findBy], by simp⟩ .nil rfl (Nat.succ_ne_self _)) (by simp)
   (fun b hb => by simp at hb; rcases hb with rfl | rfl <;> exact dead _ (by omega))
  obtain ⟨r1, r2⟩ := D4.tmps.inv2
  refine x22 r2.inv fun ow2 tow5 z1 r3 r4 => ?_; subst z1
  refine x23 r3.ol_inv fun b vs hbv z1 hlb hsb => ?_; subst z1
  cases hbv
  have hv0 : vs = #[] := by have := hsb.length; simpa using this
  subst hv0
  have htn := D4.towN
  have S5 : Sim C kk fk env ρ ((.many [], .many []) :: (.many [.con (.ref (hh.objs.size + 1)), .con (.ref b)], .many [.ref (hh.objs.size + 1), .ref b]) :: (.hz (hh.objs.size + 1) b Kc, .one (.ref (hh.objs.size + 1))) :: tmp) ⟨(hh.push emptyDict).push (instObj Kc hh.objs.size), g, d, t, os⟩ := by
   have q : SimD C kk fk env ρ ((.many [.con (.ref (hh.objs.size + 1)), .con (.ref b)], .many [.ref (hh.objs.size + 1), .ref b]) :: (.hz (hh.objs.size + 1) b Kc, .one (.ref (hh.objs.size + 1))) :: tmp) ⟨(hh.push emptyDict).push (instObj Kc hh.objs.size), g, d, t, os⟩ kp2 m2 own2 ([] :: [hh.objs.size + 1, hh.objs.size, b] :: tow5) :=
    { D4 with
     tmps := .cons (.many (.cons (.con _) (.cons (.con _) .nil))) (.cons (.hz g1 ⟨_, #[], 0, g2, rfl, fun e he => by simp at he, fun n => by simp [nsFind, findBy], by simp⟩ hlb (by
      simp only [List.flatten_cons, List.cons_append, List.nil_append, List.nodup_cons, List.mem_cons] at htn
      simp only [List.nodup_cons, List.mem_cons, List.not_mem_nil, or_false, not_or, List.nodup_nil, not_false_eq_true, and_true]
      refine ⟨⟨Nat.succ_ne_self _, fun q => htn.1 (.inr (.inl q))⟩, fun q => htn.2.1 (.inl q)⟩)) r4)
     free := fun x h => D4.free x (by simpa using h)
     apartT := fun x y h e => D4.apartT x y h (by simpa using e)
     towN := by simpa using D4.towN }
   exact Sim.nilMany ⟨kp2, m2, own2, _, q⟩
  exact callRun (kn := []) (ks := []) F (R.under _ _ _) (hb _ _) (by simpa using hl) (fun L => h L _ _) S5 fun v s' S' => ⟨by refine x12 S'.top fun _ q _ _ => ?_; exact q.none_inv, by
   refine x40 S'.pop fun kp6 m6 own6 tow6 D6 => ?_
   refine H _ s' ⟨kp6, m6, own6, tow6, { D6 with tmps := ?_ }⟩
   refine x22 D6.tmps.inv fun _ _ z1 r1 r2 => ?_; subst z1
   refine x47 r1.hd_inv fun _ _ _ _ e1 z1 q1 q2 q3 q4 q5 q6 => ?_; subst z1
   cases e1
   exact .cons (.hd (fun b e => by exact no e) q2 q3 q4 q5 q6) r2⟩) hc
theorem Ex.appendSelf {x n : Str} {px fp ap pos spos : Pos} {e : Expr} {a b : Addr} {xs : List PV} {p : PV} {pl : Sem Bool} (hx : ρ x = some (.hd (some (a, b)) Kc n xs)) (he : Ev C k env ρ e (.fr p)) (X : K.In C.h₀) (O : ClsOk K Kc) (hn : findIn K (.ref Kc) n = some none) (hsz : xs.length ≤ sizeLine)
 (hd : (x == ("__debug__" : Str)) = false := by decide)
 (hc : eval (.Call (.Attribute (.Attribute (.Name x px) n fp) "append" ap) [e] [] pos) env = (do
  let ov ← eval (.Attribute (.Name x px) n fp) env
  standAt ap.atName
  let (f, first) ← holding [ov] (getMethod ov "append" pl)
  callWith pos f first (backTo pos (starEach [e] env)) []) := by rfl)
 (hE : starEach [e] env = (false, eval e env) :: starEach [] env := by rfl)
 (hA : eval (.Attribute (.Name x px) n fp) env = (do
  let o ← eval (.Name x px) env
  standAt fp.atName
  let r ← holding [o] (getAttr o n true)
  letTemporaryGo (.Name x px) o r
  pure r) := by with_unfolding_all rfl)
 (hi : interactive env = false := by rfl) (hs : swapsWith (.Call (.Attribute (.Attribute (.Name x px) n fp) "append" ap) [e] [] pos) none spos.line env = pure false := by rfl) :
 Ex C k env ρ (.Expr (.Call (.Attribute (.Attribute (.Name x px) n fp) "append" ap) [e] [] pos) spos) .next (upd ρ x (.hd (some (a, b)) Kc n (xs ++ [p]))) := .mk fun A kk fk tmp s Q E R W S H => by
 refine wpAny_Expr_any (MethodCall_ (pl := pl) (Attribute_any_ ?_ hA) hc) hi hs
 refine x40 (id S) fun kp m own tow D => ?_
 refine x11 (D.vars x _ hx) fun v hv r => ?_
 generalize hq : own x = ow at r
 refine x47 r.hd_inv fun a' dx b' vs z1 z2 hq' ha hin hl hs' hne => ?_; subst z1; subst z2
 obtain ⟨rfl, rfl⟩ := Prod.mk.inj (hq' (a, b) rfl)
 refine D.name hv ?_ hd
 refine getAttr_inst (S.frag X) O hn ha hin (by simp; rfl) (by rfl) ?_
 obtain ⟨z, ho⟩ := id hl
 refine Calls.getMethod_list_append (s := { s with toks := s.toks + 1 }) ho rfl rfl ?_
 refine callWith_method1 ((EvL.cons he EvL.nil hE).run pos A kk fk tmp _ _ E R (S.toks (s.toks + 1)) fun vs' s2 S2 => ?_) hE rfl
 refine x40 S2 fun kp2 m2 own2 tow2 D2 => ?_; clear S2
 refine x12 D2.topMany fun tow3 _ hp D3 => ?_
 refine x11 hp.one_inv fun _ z1 hp1 => ?_; subst z1
 refine x11 (D3.vars x _ hx) fun v2 hv2 r2 => ?_
 generalize hq2 : own2 x = ow2 at r2
 refine x47 r2.hd_inv fun a2 dx2 b2 vs2 z1 z2 hq'2 ha2 hin2 hl2 hs2 hne2 => ?_; subst z1; subst z2
 obtain ⟨rfl, rfl⟩ := Prod.mk.inj (hq'2 (a, b) rfl)
 have h1 : a ≠ b := fun q => by simp [q] at hne2
 have h2 : dx2 ≠ b := fun q => by simp [q] at hne2
 refine wpAny_list_append_plain hl2 (fun h' hl' hsb => ?_) (by have := hs2.length; simp at this; omega)
 have M := D3.modVar (l' := .hd (some (a, b)) Kc n (xs ++ [p])) hx hv2 (h' := h') (tk := s2.toks) (fun c o hc e => (hsb.2 c (fun q => hc (by rw [hq2, q]; simp))).trans e)
  (by rw [hq2]; exact .hd (fun c e => by obtain rfl := si e; rfl) ((hsb.2 a h1).trans ha2) (hin2.at' fun o e => (hsb.2 dx2 h2).trans e) hl' (by simpa using hs2.append (.cons hp1 .nil)) hne2)
 exact H _ ⟨kp2, m2, own2, tow3, M⟩
end
section
variable {C : Cx} {k : Nat} {kk fk : PH} {env : Env} {ρ ρ' ρ1 ρ2 : Rho} {tmp : List (Loc × LV)} {s : Shared} {K : Frag} {Kc : Addr}
theorem Sim.many1 {p : PV} {vs : List Value} (S : Sim C kk fk env ρ ((.many [p], .many vs) :: tmp) s) : ∃ v kp m own tow, vs = [v] ∧ Rp kp p v ∧ SimD C kk fk env ρ tmp s kp m own tow := by
 refine x40 S fun kp m own tow D => ?_; clear S
 refine x12 D.topMany fun tow' _ hp D' => ?_
 cases hp with
 | cons a b =>
 cases b with
 | nil => exact ⟨_, kp, m, own, tow', rfl, a, D'⟩
theorem Sim.many2 {p q : PV} {vs : List Value} (S : Sim C kk fk env ρ ((.many [p, q], .many vs) :: tmp) s) : ∃ v w kp m own tow, vs = [v, w] ∧ Rp kp p v ∧ Rp kp q w ∧ SimD C kk fk env ρ tmp s kp m own tow := by
 refine x40 S fun kp m own tow D => ?_; clear S
 refine x12 D.topMany fun tow' _ hp D' => ?_
 cases hp with
 | cons a b =>
 cases b with
 | cons a2 b2 =>
 cases b2 with
 | nil => exact ⟨_, _, kp, m, own, tow', rfl, a, a2, D'⟩
theorem SimD.outImm {kp : PH} {m : Str → Option Value} {own : Str → List Addr} {tow : List (List Addr)} (D : SimD C kk fk env ρ tmp s kp m own tow) {h' : Heap} {tk : Nat} {p : PV} {v : Value} (hk : ∀ b o, s.heap.get? b = some o → h'.get? b = some o) (hv : Imm p v) :
 Sim C kk fk env ρ ((.fr p, .one v) :: tmp) { s with heap := h', toks := tk } := ⟨kp, m, own, _, (D.grow (h' := h') (tk := tk) hk).pushFr (hv kp)⟩
theorem PN.lenL {xs : List PV} (hf : (xs.length : Int) < 2 ^ 63) : PN C k (.builtin "len") [.lst xs] (.fr (.int xs.length)) := .mk fun A kk fk env ρ tmp vs s Q E R S H => by
 refine x52 S.many1 fun v kp m own tow z1 hp D => ?_; subst z1
 refine x32 hp.lst_inv' fun a vs n z1 hk hr => ?_; subst z1
 have hl := hr.length
 simp at hl
 refine Calls.call_len_list (s := s) (l := a) (items := vs) ⟨_, D.kept _ _ hk, rfl, n, rfl⟩ (by rw [hl]; exact hf) (H _ _ (D.outImm (h' := s.heap) (fun _ _ e => e) fun kp => by rw [hl]; exact .int _ _))
theorem PN.lenS {x : Str} (hf : ¬ (x.length : Int) ≥ 2 ^ 63) : PN C k (.builtin "len") [.str x] (.fr (.int x.length)) := .mk fun A kk fk env ρ tmp vs s Q E R S H => by
 refine x52 S.many1 fun v kp m own tow z1 hp D => ?_; subst z1
 obtain ⟨t, rfl⟩ := hp.str_inv
 exact P.len_str hf (H _ _ (D.outImm (h' := s.heap) (fun _ _ e => e) fun kp => .int _ _))
theorem PN.lenT {xs : List PV} (hf : (xs.length : Int) < 2 ^ 63) : PN C k (.builtin "len") [.tup xs] (.fr (.int xs.length)) := .mk fun A kk fk env ρ tmp vs s Q E R S H => by
 refine x52 S.many1 fun v kp m own tow z1 hp D => ?_; subst z1
 refine x44 hp.tup_inv fun a o vs n z1 hk hc hd hr => ?_; subst z1
 have hl := hr.length
 simp at hl
 exact PyProof.Rows.len_tuple (t := a) (items := vs) ⟨o, D.kept _ _ hk, hc, n, hd⟩ (by rw [hl]; exact hf) (H _ _ (D.outImm (h' := s.heap) (fun _ _ e => e) fun kp => by rw [hl]; exact .int _ _))
theorem PN.chr {i : Int} (h0 : 0 ≤ i) (h1 : i ≤ 1114111) : PN C k (.builtin "chr") [.int i] (.fr (.str ⟨#[i.toNat]⟩)) := .mk fun A kk fk env ρ tmp vs s Q E R S H => by
 refine x52 S.many1 fun v kp m own tow z1 hp D => ?_; subst z1
 obtain ⟨t, rfl⟩ := hp.int_inv
 exact chr_of_range h0 h1 (H _ _ (D.outImm (h' := s.heap) (fun _ _ e => e) fun kp => .str _ _))
theorem PN.ord {c : Nat} : PN C k (.builtin "ord") [.str ⟨#[c]⟩] (.fr (.int c)) := .mk fun A kk fk env ρ tmp vs s Q E R S H => by
 refine x52 S.many1 fun v kp m own tow z1 hp D => ?_; subst z1
 obtain ⟨t, rfl⟩ := hp.str_inv
 exact P.ord_of_char (H _ _ (D.outImm (h' := s.heap) (fun _ _ e => e) fun kp => .int _ _))
theorem PN.max2 {i j : Int} : PN C k (.builtin "max") [.int i, .int j] (.fr (.int (if j > i then j else i))) := .mk fun A kk fk env ρ tmp vs s Q E R S H => by
 refine x63 S.many2 fun v w kp m own tow z1 hp hq D => ?_; subst z1
 obtain ⟨t, rfl⟩ := hp.int_inv
 obtain ⟨u, rfl⟩ := hq.int_inv
 refine max_two_ints R.handled fun h' tk hk => H _ _ (D.outImm hk fun kp => ?_)
 split <;> exact .int _ _
theorem PN.tupleL {xs : List PV} (hsz : xs.length ≤ sizeLine) : PN C k (.type "tuple") [.lst xs] (.fr (.tup xs)) := .mk fun A kk fk env ρ tmp vs s Q E R S H => by
 refine x52 S.many1 fun v kp m own tow z1 hp D => ?_; subst z1
 refine x32 hp.lst_inv' fun a vs n z1 hk hr => ?_; subst z1
 have hl := hr.length
 simp at hl
 refine call_tuple_list (l := a) (items := vs) ⟨_, D.kept _ _ hk, rfl, n, rfl⟩ (fun h' hk' => ?_) (by omega)
 have G := D.grow (h' := h') (tk := s.toks) hk'
 have M : Sim C kk fk env ρ ((.many xs, .many vs.toList) :: tmp) { s with heap := h' } := ⟨kp, m, own, [] :: tow, { G with tmps := .cons (.many hr) G.tmps, free := fun x h => G.free x (by simpa using h), apartT := fun x y h e => G.apartT x y h (by simpa using e), towN := by simpa using G.towN }⟩
 have N := M.newTuple
 exact H _ _ (by simpa using N)
theorem P2.addL {xs ys : List PV} (hsz : xs.length + ys.length ≤ sizeLine) : P2 C k (binaryOp .Add) (.lst xs) (.lst ys) (.ol (xs ++ ys)) := .mk fun A kk fk env ρ tmp va vb s Q E R S H => by
 refine x40 S fun kp m own tow D => ?_; clear S
 refine x12 D.top fun tow1 _ hb D1 => ?_
 refine x12 D1.top fun tow2 _ ha D2 => ?_
 refine x32 ha.lst_inv' fun a vs n z1 hka hra => ?_; subst z1
 refine x32 hb.lst_inv' fun b ws n2 z1 hkb hrb => ?_; subst z1
 have l1 := hra.length
 have l2 := hrb.length
 simp at l1 l2
 refine P.add_list (D2.kept _ _ hka) (D2.kept _ _ hkb) ?_ (by omega)
 have M : Sim C kk fk env ρ ((.many (xs ++ ys), .many (vs.toList ++ ws.toList)) :: tmp) s := ⟨kp, m, own, [] :: tow2, { D2 with tmps := .cons (.many (hra.append hrb)) D2.tmps, free := fun x h => D2.free x (by simpa using h), apartT := fun x y h e => D2.apartT x y h (by simpa using e), towN := by simpa using D2.towN }⟩
 have N := M.newList s.toks
 refine H _ _ ?_
 have e : (vs.toList ++ ws.toList).toArray = vs ++ ws := by simp
 rw [e] at N
 exact N
theorem P2.mulS {x : Str} {n : Int} (hok : MulOk x n) : P2 C k (binaryOp .Mult) (.str x) (.int n) (.fr (.str (Txt.mul x n))) := .mk fun A kk fk env ρ tmp va vb s Q E R S H => by
 refine x40 S fun kp m own tow D => ?_; clear S
 refine x12 D.top fun tow1 _ hb D1 => ?_
 refine x12 D1.top fun tow2 _ ha D2 => ?_
 obtain ⟨t, rfl⟩ := ha.str_inv
 obtain ⟨u, rfl⟩ := hb.int_inv
 exact SB.mul hok fun t' tk => H _ _ (D2.outImm (h' := s.heap) (fun _ _ e => e) fun kp => .str _ _)
structure EvP (C : Cx) (k : Nat) (env : Env) (ρ : Rho) (o : Option Expr) (q : Option Int) : Prop where
 run : ∀ (A : Around) (kk fk : PH) (tmp : List (Loc × LV)) (s : Shared) (Q : Value → Shared → Prop) (E : Value → Shared → Prop), Rm A k → Sim C kk fk env ρ tmp s → (∀ (l : Option (Int × Tok)) s', l.map (·.1) = q → Sim C kk fk env ρ tmp s' → Q (partValue l) s') → wpAny (model C.prog C.w) A (evalPart o env) Q E s
theorem EvP.none : EvP C k env ρ none none := .mk fun A kk fk tmp s Q E R S H => evalPart_none_step (H Option.none s rfl S)
theorem EvP.some {e : Expr} {i : Int} (h : Ev C k env ρ e (.fr (.int i))) : EvP C k env ρ (some e) (some i) := .mk fun A kk fk tmp s Q E R S H =>
 evalPart_some_step (h.run A kk fk tmp s Q E R S fun v s1 S1 => by
  obtain ⟨kp, hp, -, S2⟩ := S1.top
  obtain ⟨t, rfl⟩ := hp.int_inv
  exact H (Option.some (i, t)) s1 rfl S2)
theorem Ev.sliceS {e : Expr} {lo hi : Option Expr} {p pos : Pos} {x : Str} {l u : Option Int} (h : Ev C k env ρ e (.fr (.str x))) (hl : EvP C k env ρ lo l) (hu : EvP C k env ρ hi u) (hsz : x.length ≤ sizeLine)
 (ht : ∀ o r, letTemporaryGo e o r = pure () := by intro _ _; rfl) : Ev C k env ρ (.Subscript e (.Slice lo hi none p) pos) (.fr (.str (Txt.slice x l u))) := .mk fun A kk fk tmp s Q E R S H =>
 wpAny_Subscript_str_slice (h.run A kk fk tmp s _ E R S fun v s1 S1 => hl.run A kk fk _ s1 _ E R S1 fun vl s2 e2 S2 => hu.run A kk fk _ s2 _ E R S2 fun vu s3 e3 S3 => by
  refine x40 S3 fun kp m own tow D => ?_; clear S3
  refine x12 D.top fun tow' _ hp D' => ?_
  obtain ⟨t, rfl⟩ := hp.str_inv
  refine ⟨x, t, vl, vu, rfl, rfl, rfl, ?_⟩
  have fin : ∀ t' k', Q (.str (Txt.slice x l u) t') { s3 with heap := s3.heap.push { cls := .type "slice", data := .fields #[partValue vl, partValue vu, .none] }, toks := k' } := fun t' k' =>
   H _ _ (D'.outImm (h' := s3.heap.push { cls := .type "slice", data := .fields #[partValue vl, partValue vu, .none] }) (tk := k') (fun b o e => Heap.get?_push_of_some _ e) fun kp => .str _ _)
  subst e2 e3
  exact post_val_or_str ⟨Nat.le_trans (Txt.slice_le x _ _) hsz, fun t' k' => fin t' k'⟩) ht
theorem Rps.strs {kp : PH} : ∀ {texts : List Str} {vs : List Value}, Rps kp (texts.map .str) vs → ∃ l, vs = strValues l ∧ l.map (·.1) = texts
 | [], _, .nil => ⟨[], rfl, rfl⟩
 | x :: r, _, .cons h hs => by
  obtain ⟨t, rfl⟩ := h.str_inv
  refine x11 (Rps.strs hs) fun l z1 z2 => ?_; subst z1; subst z2
  exact ⟨(x, t) :: l, rfl, rfl⟩
theorem Ev.join {o e : Expr} {ap pos : Pos} {x : Str} {texts : List Str} (ho : Ev C k env ρ o (.fr (.str x))) (he : Ev C k env ρ e (.fr (.lst (texts.map .str)))) (hok : JoinOk x texts = true)
 (hbase : attributeBase o "join" env (eval o env) = eval o env := by rfl) (hs : starEach [e] env = [(false, eval e env)] := by rfl) (hline : (ap.endLine == pos.line) = true := by rfl) :
 Ev C k env ρ (.Call (.Attribute o "join" ap) [e] [] pos) (.fr (.str (Txt.join x texts))) := .mk fun A kk fk tmp s Q E R S H =>
 Call_method1 hbase hs hline (ho.run A kk fk tmp s _ E R S fun ov s1 S1 => by
  refine x12 S1.top fun kp hp _ S2 => ?_
  obtain ⟨t, rfl⟩ := hp.str_inv
  exact SB.join (he.run A kk fk tmp s1 _ E R S2 fun v s3 S3 => by
   refine x40 S3 fun kp3 m own tow D => ?_; clear S3
   refine x12 D.top fun tow' _ hp3 D' => ?_
   refine x32 hp3.lst_inv' fun a vs n z1 hk hr => ?_; subst z1
   refine x11 hr.strs fun l hl hm => ?_
   refine ⟨a, l, rfl, ⟨_, D.kept _ _ hk, rfl, n, by rw [← hl]⟩, texts, hm, hok, fun t' tk => H _ _ (D'.outImm (h' := s3.heap) (fun _ _ e => e) fun kp => .str _ _)⟩))
theorem Ev.lower {o : Expr} {ap pos : Pos} {x : Str} (ho : Ev C k env ρ o (.fr (.str x))) (hok : Builtin.Str.tooLong (placed x fun i _ => Unicode.lowerAt x.cps i).size = false) (hsz : (⟨placed x fun i _ => Unicode.lowerAt x.cps i⟩ : Str).length ≤ sizeLine)
 (hbase : attributeBase o "lower" env (eval o env) = eval o env := by rfl) (hline : (ap.endLine == pos.line) = true := by rfl) :
 Ev C k env ρ (.Call (.Attribute o "lower" ap) [] [] pos) (.fr (.str ⟨placed x fun i _ => Unicode.lowerAt x.cps i⟩)) := .mk fun A kk fk tmp s Q E R S H =>
 Call_method0 hbase hline (ho.run A kk fk tmp s _ E R S fun ov s1 S1 => by
  refine x40 S1 fun kp m own tow D => ?_; clear S1
  refine x12 D.top fun tow' _ hp D' => ?_
  obtain ⟨t, rfl⟩ := hp.str_inv
  exact MethodOnS.str0 F.slot_str_lower F.type_str_lower F.entry_str_lower (F.args_str_lower_1 _) (gives_str_lower x t hok) ⟨hsz, H _ _ (D'.outImm (h' := s1.heap) (fun _ _ e => e) fun kp => .str _ _)⟩)
end
section
variable {C : Cx} {k : Nat} {kk fk : PH} {env : Env} {ρ ρ' ρ1 ρ2 : Rho} {tmp : List (Loc × LV)} {s : Shared} {K : Frag} {Kc : Addr}
noncomputable def rangeP (a : Int) (n : Nat) : List PV := (List.range n).map fun (i : Nat) => PV.int (a + (i : Int))
theorem SimD.pushRange {kp : PH} {m : Str → Option Value} {own : Str → List Addr} {tow : List (List Addr)} (D : SimD C kk fk env ρ tmp s kp m own tow) {h1 : Heap} {tk : Nat} {a : Int} {n : Nat} (hk : ∀ b o, s.heap.get? b = some o → h1.get? b = some o) :
 Sim C kk fk env ρ ((.itr (rangeP a n), .one (.ref h1.objs.size)) :: tmp) { s with heap := h1.push { cls := .type "range_iterator", data := .fields #[rawInt a, rawInt (n : Int), rawInt 1] }, toks := tk } := by
 have G := D.grow (h' := h1) (tk := tk) hk
 refine ⟨kp, m, own, _, G.pushNew { cls := .type "range_iterator", data := .fields #[rawInt a, rawInt (n : Int), rawInt 1] } tk
  (.itr (i := 0) (n := n) (fun A hA => Walks.range hA h1.objs.size a 1 n) ?_ (by simp [rangeP]) ?_ (fun b hb => .inl hb) ?_ (by simp) ?_)⟩
 · show IsRangeIter _ _ _ _ _
   have e1 : a + ((0 : Nat) : Int) * 1 = a := by simp
   have e2 : (n : Int) - ((0 : Nat) : Int) = n := by simp
   rw [e1, e2]
   exact Heap.get?_push_size _ rfl
 · intro j v p hP hj
   obtain ⟨t, rfl⟩ := hP
   unfold rangeP at hj
   simp only [List.getElem?_map, Option.map_eq_some_iff] at hj
   refine x11 hj fun i hi z1 => ?_; clear hj; subst z1
   have : i = j := by
    have := List.getElem?_eq_some_iff.mp hi
    obtain ⟨h1, h2⟩ := this
    simpa using h2.symm
   subst this
   simp only [Nat.zero_add, Int.mul_one]
   exact .int _ _
 · rintro i h st b hb
   simp at hb; subst hb
   exact ⟨_, st⟩
 · rintro i h st
   exact ⟨_, st, by unfold NoOwned; dsimp only; decide⟩
theorem EvIt.range1 {f e : Expr} {pos : Pos} {b : Int} {n : Nat} (hf : Ev C k env ρ f (.fr (.con (.type "range")))) (he : Ev C k env ρ e (.fr (.int b))) (hn : Builtin.Range.rangeSize 0 b 1 = n) (hs : Builtin.Range.small 0 b 1 = true)
 (hc : eval (.Call f [e] [] pos) env = (do callWith pos (← eval f env) [] (backTo pos (starEach [e] env)) (backToKw pos (keywordEach [] env))) := by rfl)
 (hE : starEach [e] env = (false, eval e env) :: starEach [] env := by rfl) : EvIt C k env ρ (.Call f [e] [] pos) (.itr (rangeP 0 n)) := .mk fun A kk fk tmp s Q E R S H =>
 Call_ (hf.run A kk fk tmp s _ E R S fun vf s1 S1 => by
  refine x12 S1.top fun kp hr _ S1' => ?_
  obtain rfl := hr.con_inv
  refine PyProof.Rows.callWith_type1 ((EvL.cons he EvL.nil hE).run pos A kk fk tmp s1 _ E R S1' fun vs s2 S2 => ?_) hE rfl
  refine x52 S2.many1 fun v kp m own tow z1 hp D => ?_; subst z1
  obtain ⟨t, rfl⟩ := hp.int_inv
  refine call_range_1 (wpAny_pyIter_range (IsRange.new ..) hs ?_)
  rw [hn]
  exact H _ _ (D.pushRange fun b o e => Heap.get?_push_of_some _ e)) hc
theorem EvIt.range2 {f e e2 : Expr} {pos : Pos} {a b : Int} {n : Nat} (hf : Ev C k env ρ f (.fr (.con (.type "range")))) (he : Ev C k env ρ e (.fr (.int a))) (he2 : Ev C k env ρ e2 (.fr (.int b))) (hn : Builtin.Range.rangeSize a b 1 = n) (hs : Builtin.Range.small a b 1 = true)
 (hc : eval (.Call f [e, e2] [] pos) env = (do callWith pos (← eval f env) [] (backTo pos (starEach [e, e2] env)) (backToKw pos (keywordEach [] env))) := by rfl)
 (hE : starEach [e, e2] env = (false, eval e env) :: starEach [e2] env := by rfl) (hE2 : starEach [e2] env = (false, eval e2 env) :: starEach [] env := by rfl) (hp2 : (backTo pos (starEach [e2] env)).any (·.1) = false := by rfl) : EvIt C k env ρ (.Call f [e, e2] [] pos) (.itr (rangeP a n)) := .mk fun A kk fk tmp s Q E R S H =>
 Call_ (hf.run A kk fk tmp s _ E R S fun vf s1 S1 => by
  refine x12 S1.top fun kp hr _ S1' => ?_
  obtain rfl := hr.con_inv
  refine PyProof.Rows.callWith_type1 ((EvL.cons he (EvL.cons he2 EvL.nil hE2) hE).run pos A kk fk tmp s1 _ E R S1' fun vs s2 S2 => ?_) hE hp2
  refine x63 S2.many2 fun v w kp m own tow z1 hp hq D => ?_; subst z1
  obtain ⟨t, rfl⟩ := hp.int_inv
  obtain ⟨u, rfl⟩ := hq.int_inv
  refine call_range_2 (wpAny_pyIter_range (IsRange.new ..) hs ?_)
  rw [hn]
  exact H _ _ (D.pushRange fun b o e => Heap.get?_push_of_some _ e)) hc
theorem rangeSize_nat (a b : Int) (h : a ≤ b) : Builtin.Range.rangeSize a b 1 = ((b - a).toNat : Int) := by
 rw [rangeSize_one]
 split <;> omega
theorem Pidx.lstNeg {xs : List PV} {i : Int} {p : PV} (h0 : i < 0) (hlo : -(2 ^ 63) ≤ i) (hn : -i ≤ xs.length) (hx : xs[(xs.length + i).toNat]? = some p) : Pidx C k (.lst xs) (.int i) (.fr p) :=
 fun value slice hs => .mk fun A kk fk env ρ tmp va vb s Q E R S H => by
 refine x40 S fun kp m own tow D => ?_; clear S
 refine x12 D.top fun tow1 _ hb D1 => ?_
 refine x12 D1.top fun tow2 _ ha D2 => ?_
 obtain ⟨t, rfl⟩ := hb.int_inv
 refine x44 ha.lst_inv fun a o vs n z1 hk hc hd hr => ?_; subst z1
 refine x11 (hr.get hx) fun v hv hp => ?_
 have hl : s.heap.IsList a vs := ⟨o, D.kept _ _ hk, hc, n, hd⟩
 have hlen := hr.length
 simp at hlen
 refine tail_any hl.typeIs slot_list_getitem.lookup (wpAny_getItem_list_neg hl h0 (by rw [hlen]; omega) hlo (x := v) ?_ (H v s ⟨kp, m, own, _, D2.pushFr hp⟩)) (hs _ _)
 rw [hlen, Int.add_comm]
 simpa using hv
theorem PN.allB {bs : List Bool} : PN C k (.builtin "all") [.lst (bs.map .bool)] (.fr (.bool (bs.all id))) := .mk fun A kk fk env ρ tmp vs s Q E R S H => by
 refine x52 S.many1 fun v kp m own tow z1 hp D => ?_; subst z1
 refine x32 hp.lst_inv' fun a vs n z1 hk hr => ?_; subst z1
 have hl : s.heap.IsList a vs := ⟨_, D.kept _ _ hk, rfl, n, rfl⟩
 have hne : a ≠ s.heap.objs.size := by refine x11 hl fun o ho _ => ?_; clear hl; exact Nat.ne_of_lt (Heap.lt_size ho)
 have hlen := hr.length
 simp at hlen
 refine call_all_walk (wpAny_pyIter_list hl ⟨_, _, _, _, _, _, fun i => bs[i]?.getD false, rfl, Walks.list (A := A.in1) R.handled s.heap.objs.size a hne vs, ⟨⟨_, Heap.get?_push_size _ rfl, rfl, rfl⟩, hl.push _⟩, ?_, fun h' tk hk' => ?_⟩)
 · intro i v s' Q' E' hP hQ
   have hv : vs.toList[i]? = some v := by simpa using hP
   have hi : i < (bs.map PV.bool).length := by
    have := (List.getElem?_eq_some_iff.mp hv).1
    rw [hr.length] at this; exact this
   refine x11 (hr.get (List.getElem?_eq_getElem hi)) fun v' hv' hp' => ?_
   rw [hv] at hv'; obtain rfl := si hv'
   simp only [List.getElem_map] at hp'
   obtain rfl := hp'.bool_inv
   refine wpAny_truthy_bool ?_
   have e : bs[i]?.getD false = bs[i]'(by simpa using hi) := by
    rw [List.getElem?_eq_getElem (by simpa using hi)]; rfl
   dsimp only at hQ
   rw [e] at hQ
   exact hQ
 · have e : (List.range vs.size).all (fun i => bs[i]?.getD false) = bs.all id := by
    rw [hlen, Bool.eq_iff_iff]
    simp only [List.all_eq_true, List.mem_range, id]
    constructor
    · intro h b hb
      obtain ⟨i, hi, rfl⟩ := List.mem_iff_getElem.mp hb
      have := h i hi
      rwa [List.getElem?_eq_getElem hi] at this
    · intro h i hi
      rw [List.getElem?_eq_getElem hi]
      exact h _ (List.getElem_mem hi)
   rw [e]
   exact H _ _ (D.outImm (h' := h') (tk := tk) (fun b o e => hk' b o (by simp; exact Nat.ne_of_lt (Heap.lt_size e)) (Heap.get?_push_of_some _ e)) fun kp => .bool _)
end
noncomputable def pickP (xs : List PV) (lo hi st : Option Int) : List PV :=
 (sliceRange (sliceBounds lo hi st xs.length).1 (sliceBounds lo hi st xs.length).2.1 (sliceBounds lo hi st xs.length).2.2).filterMap (xs[·]?)
section
variable {C : Cx} {k : Nat} {kk fk : PH} {env : Env} {ρ ρ' ρ1 ρ2 : Rho} {tmp : List (Loc × LV)} {s : Shared} {K : Frag} {Kc : Addr}
theorem Rps.pick {kp : PH} {xs : List PV} {vs : List Value} (h : Rps kp xs vs) : ∀ (idx : List Nat), Rps kp (idx.filterMap (xs[·]?)) (idx.filterMap (vs[·]?))
 | [] => .nil
 | i :: r => by
  have ih := Rps.pick h r
  cases hx : xs[i]? with
  | none =>
   have : vs[i]? = none := by
    rw [List.getElem?_eq_none_iff] at hx ⊢
    rw [h.length]; exact hx
   simp only [List.filterMap_cons, hx, this]; exact ih
  | some p =>
   refine x11 (h.get hx) fun v hv hp => ?_
   simp only [List.filterMap_cons, hx, hv]; exact .cons hp ih
theorem partIs {l : Option (Int × Tok)} : IsPart (partValue l) (l.map (·.1)) := by
 cases l with
 | none => exact .none
 | some p => obtain ⟨i, t⟩ := p; exact .int i t
theorem Ev.sliceL {e : Expr} {lo hi st : Option Expr} {p pos : Pos} {xs : List PV} {l u d : Option Int} (h : Ev C k env ρ e (.fr (.lst xs))) (hl : EvP C k env ρ lo l) (hu : EvP C k env ρ hi u) (hd : EvP C k env ρ st d) (h0 : d ≠ some 0) (hsz : xs.length ≤ sizeLine)
 (ht : ∀ o r, letTemporaryGo e o r = pure () := by intro _ _; rfl) : Ev C k env ρ (.Subscript e (.Slice lo hi st p) pos) (.ol (pickP xs l u d)) := .mk fun A kk fk tmp s Q E R S H => by
 have core : wpAny (model C.prog C.w) A (eval e env) (fun o s1 => wpAny (model C.prog C.w) A (eval (.Slice lo hi st p) env) (fun i s2 => s2.TypeIs o "list" ∧ wpAny (model C.prog C.w) A (getItem o i) Q E s2) E s1) E s := by
  refine h.run A kk fk tmp s _ E R S fun v s1 S1 => wpAny_Slice (hl.run A kk fk _ s1 _ E R S1 fun vl s2 e2 S2 => hu.run A kk fk _ s2 _ E R S2 fun vu s3 e3 S3 => hd.run A kk fk _ s3 _ E R S3 fun vd s4 e4 S4 => ?_)
  refine x40 S4 fun kp m own tow D => ?_; clear S4
  refine x12 D.top fun tow' _ hp D' => ?_
  refine x32 hp.lst_inv' fun a vs n z1 hk hr => ?_; subst z1
  have hL : s4.heap.IsList a vs := ⟨_, D.kept _ _ hk, rfl, n, rfl⟩
  have hlen := hr.length
  simp at hlen
  subst e2 e3 e4
  refine ⟨(hL.push _).typeIs, wpAny_getItem_list_slice (hL.push _) (Heap.IsSliceOf.new ..) partIs partIs partIs h0 ?_ (by omega)⟩
  have G := D'.grow (h' := s4.heap.push { cls := .type "slice", data := .fields #[partValue vl, partValue vu, partValue vd] }) (tk := s4.toks) fun b o e => Heap.get?_push_of_some _ e
  have hr' : Rps kp (pickP xs (vl.map (·.1)) (vu.map (·.1)) (vd.map (·.1))) (slicePick vs (vl.map (·.1)) (vu.map (·.1)) (vd.map (·.1))).toList := by
   unfold pickP slicePick
   rw [hlen]
   have := hr.pick (sliceRange (sliceBounds (vl.map (·.1)) (vu.map (·.1)) (vd.map (·.1)) xs.length).1 (sliceBounds (vl.map (·.1)) (vu.map (·.1)) (vd.map (·.1)) xs.length).2.1 (sliceBounds (vl.map (·.1)) (vu.map (·.1)) (vd.map (·.1)) xs.length).2.2)
   simpa using this
  have M : Sim C kk fk env ρ ((.many _, .many _) :: tmp) { s4 with heap := s4.heap.push { cls := .type "slice", data := .fields #[partValue vl, partValue vu, partValue vd] } } := ⟨kp, m, own, [] :: tow', { G with tmps := .cons (.many hr') G.tmps, free := fun x h => G.free x (by simpa using h), apartT := fun x y h e => G.apartT x y h (by simpa using e), towN := by simpa using G.towN }⟩
  have N := M.newList s4.toks
  exact H _ _ (by simpa using N)
 cases st with
 | none => exact wpAny_Subscript_Slice (T := "list") list_getitem_lookup core ht
 | some st => exact wpAny_Subscript_Slice_step (T := "list") list_getitem_lookup core ht
theorem Ev.enumIt {f e : Expr} {pos : Pos} {xs : List PV} (hf : Ev C k env ρ f (.fr (.con (.type "enumerate")))) (he : Ev C k env ρ e (.fr (.lst xs)))
 (hc : eval (.Call f [e] [] pos) env = (do callWith pos (← eval f env) [] (backTo pos (starEach [e] env)) (backToKw pos (keywordEach [] env))) := by rfl)
 (hE : starEach [e] env = (false, eval e env) :: starEach [] env := by rfl) : EvIt C k env ρ (.Call f [e] [] pos) (.itt (xs.zipIdx.map fun p => [.int (p.2 : Nat), p.1])) := .mk fun A kk fk tmp s Q E R S H =>
 Call_ (hf.run A kk fk tmp s _ E R S fun vf s1 S1 => by
  refine x12 S1.top fun kp hr _ S1' => ?_
  obtain rfl := hr.con_inv
  refine PyProof.Rows.callWith_type1 ((EvL.cons he EvL.nil hE).run pos A kk fk tmp s1 _ E R S1' fun vs s2 S2 => ?_) hE rfl
  refine x52 S2.many1 fun v kp m own tow z1 hp D => ?_; subst z1
  refine x32 hp.lst_inv' fun a vs n z1 hk hr => ?_; subst z1
  have hlen := hr.length
  simp at hlen
  have ha := D.kept _ _ hk
  have hL : s2.heap.IsList a vs := ⟨_, ha, rfl, n, rfl⟩
  have halt : a < s2.heap.objs.size := Heap.lt_size ha
  refine call_enumerate_1 ha fun h' hen hit hsz hkeep => ?_
  refine wpAny_pyIter_enum hen (H _ _ ⟨kp, m, own, _, D.pushOwn (h' := h') (tk := s2.toks) (ow := [s2.heap.objs.size + 1, s2.heap.objs.size]) hkeep
   (.itt (i := 0) (n := vs.size) (fun A hA => WalksT.enumerateD (Draws.list (A := A.in1) hA s2.heap.objs.size a (Nat.ne_of_lt halt) vs) (s2.heap.objs.size + 1) (Nat.succ_ne_self _) (fun h => by
    rcases List.mem_cons.mp h with h | h
    · exact absurd h (Nat.succ_ne_self _)
    · rcases List.mem_cons.mp h with h | h
      · exact absurd h (Nat.ne_of_gt (Nat.lt_succ_of_lt halt))
      · cases h) (by simp))
    ⟨⟨_, hen⟩, hit, hL.at fun o e => hkeep _ _ e⟩ (by simp [hlen]) ?_ ?_ ?_ (by simp)) (by simp) ?_⟩)
  · intro j v p hP hj
    refine x21 hP fun t x hx z1 => ?_; clear hP; subst z1
    simp only [Nat.zero_add] at hx
    simp only [List.getElem?_map, Option.map_eq_some_iff] at hj
    refine x11 hj fun z1 hq z2 => ?_; clear hj; obtain ⟨q, i⟩ := z1; subst z2
    rw [List.getElem?_zipIdx] at hq
    simp only [Option.map_eq_some_iff, Prod.mk.injEq] at hq
    refine x12 hq fun q' hq' z1 z2 => ?_; clear hq; subst z1; subst z2
    refine x11 (hr.get hq') fun v' hv' hp' => ?_
    have hx' : vs.toList[j]? = some x := by simpa using hx
    rw [hx'] at hv'; obtain rfl := si hv'
    simp only [Nat.zero_add]
    exact .cons (.int _ _) (.cons hp' .nil)
  · intro b hb
    simp at hb
    rcases hb with rfl | rfl | rfl
    · exact .inl (by simp)
    · exact .inl (by simp)
    · exact .inr ⟨_, hk⟩
  · rintro i h ⟨⟨old, he'⟩, hit', -⟩ b hb
    simp at hb
    rcases hb with rfl | rfl
    · exact ⟨_, he'⟩
    · refine x11 hit' fun o ho _ => ?_; clear hit'; exact ⟨o, ho⟩
  · intro b hb
    have hb' : s2.heap.objs.size ≤ b := by
     rcases List.mem_cons.mp hb with rfl | hb
     · exact Nat.le_succ _
     · rw [List.mem_singleton.mp hb]; exact Nat.le_refl _
    cases e : s2.heap.get? b with
    | none => rfl
    | some o => exact absurd (Heap.lt_size e) (Nat.not_lt.mpr hb')) hc
end
theorem widenT {prog : Program} {w : World} {A : Around} {I : Addr} {fp wr : List Addr} {n : Nat} {Pt : Nat → Array Value → Prop} {St : Nat → Heap → Prop} {Mid : Nat → Addr → Heap → Prop} (W : WalksT prog w A I fp wr n Pt St Mid) (wr' : List Addr)
 (h1 : ∀ b ∈ wr, b ∈ wr') (h2 : ∀ b ∈ wr', b ∈ fp) (hlive : ∀ i h, St i h → ∀ b ∈ wr', ∃ o, h.get? b = some o) : WalksT prog w A I fp wr' n Pt St (fun i T h => Mid i T h ∧ T ∉ wr') where
 sub := h2
 frame := W.frame
 item := fun i s Q E hi hst hQ => W.item i s Q E hi hst fun T vals h' tk hP hT hTup hm hk => hQ T vals h' tk hP hT hTup ⟨hm, fun hw => by
  obtain ⟨o, e⟩ := hlive i _ hst T hw
  exact absurd (Heap.lt_size e) (Nat.not_lt.mpr hT)⟩ fun b o hb e => hk b o (fun h => hb (h1 b h)) e
 go := fun elts k pos i T s Q E hm hQ => W.go elts k pos i T s Q E hm.1 fun h' hst hk => hQ h' hst fun b o hb e => hk b o (fun h => hb (h1 b h)) e
 apart := fun i T h hm => hm.2
 done := fun s Q E hst hQ => W.done s Q E hst fun h' tk hk => hQ h' tk fun b o hb e => hk b o (fun h => hb (h1 b h)) e
 self := W.self
section
variable {C : Cx} {k : Nat} {kk fk : PH} {env : Env} {ρ ρ' ρ1 ρ2 : Rho} {tmp : List (Loc × LV)} {s : Shared} {K : Frag} {Kc : Addr}
theorem Ev.zipIt {f e e2 : Expr} {pos : Pos} {xs ys : List PV} (hf : Ev C k env ρ f (.fr (.con (.type "zip")))) (he : Ev C k env ρ e (.fr (.lst xs))) (he2 : Ev C k env ρ e2 (.fr (.lst ys)))
 (hc : eval (.Call f [e, e2] [] pos) env = (do callWith pos (← eval f env) [] (backTo pos (starEach [e, e2] env)) (backToKw pos (keywordEach [] env))) := by rfl)
 (hE : starEach [e, e2] env = (false, eval e env) :: starEach [e2] env := by rfl) (hE2 : starEach [e2] env = (false, eval e2 env) :: starEach [] env := by rfl) (hp2 : (backTo pos (starEach [e2] env)).any (·.1) = false := by rfl) :
 EvIt C k env ρ (.Call f [e, e2] [] pos) (.itt ((xs.zip ys).map fun p => [p.1, p.2])) := .mk fun A kk fk tmp s Q E R S H =>
 Call_ (hf.run A kk fk tmp s _ E R S fun vf s1 S1 => by
  refine x12 S1.top fun kp hr _ S1' => ?_
  obtain rfl := hr.con_inv
  refine PyProof.Rows.callWith_type1 ((EvL.cons he (EvL.cons he2 EvL.nil hE2) hE).run pos A kk fk tmp s1 _ E R S1' fun vs s2 S2 => ?_) hE hp2
  refine x63 S2.many2 fun v v2 kp m own tow z1 hp hq D => ?_; subst z1
  refine x32 hp.lst_inv' fun a vs n z1 hk hr => ?_; subst z1
  refine x32 hq.lst_inv' fun b ws n2 z1 hk2 hr2 => ?_; subst z1
  have hlen := hr.length
  have hlen2 := hr2.length
  simp at hlen hlen2
  have ha := D.kept _ _ hk
  have hb := D.kept _ _ hk2
  have hL : s2.heap.IsList a vs := ⟨_, ha, rfl, n, rfl⟩
  have hL2 : s2.heap.IsList b ws := ⟨_, hb, rfl, n2, rfl⟩
  have halt : a < s2.heap.objs.size := Heap.lt_size ha
  have hblt : b < s2.heap.objs.size := Heap.lt_size hb
  obtain ⟨N, hN⟩ : ∃ N, s2.heap.objs.size = N := ⟨_, rfl⟩
  rw [hN] at halt hblt
  have nz : ∀ i j : Nat, i ≠ j → N + i ≠ N + j := fun i j h e => h (Nat.add_left_cancel e)
  have lo : ∀ c, c < N → ∀ i : Nat, c ≠ N + i := fun c hc i e => absurd hc (Nat.not_lt.mpr (e ▸ Nat.le_add_right N i))
  refine call_zip_2 hL hL2 ?_
  rw [hN]
  intro h' hz hTI hTO hi1 hi2 hsz hkeep
  have nd : [N + 4, N + 2, N + 3, N, N + 1].Nodup := by
   simp only [List.nodup_cons, List.mem_cons, List.not_mem_nil, or_false, not_or, List.nodup_nil, not_false_eq_true, and_true]
   exact ⟨⟨nz 4 2 (by decide), nz 4 3 (by decide), nz 4 0 (by decide), nz 4 1 (by decide)⟩, ⟨nz 2 3 (by decide), nz 2 0 (by decide), nz 2 1 (by decide)⟩, ⟨nz 3 0 (by decide), nz 3 1 (by decide)⟩, nz 0 1 (by decide)⟩
  have Ap : ZipApart (N + 4) (N + 2) (N + 3) N (N + 1) a b := by
   constructor <;> first | exact nz _ _ (by decide) | exact nz 0 _ (by decide) | exact nz _ 0 (by decide) | exact lo a halt _ | exact lo b hblt _ | exact lo a halt 0 | exact lo b hblt 0
  refine wpAny_pyIter_zip hz (H _ _ ⟨kp, m, own, _, D.pushOwn (h' := h') (tk := s2.toks) (ow := [N + 4, N + 2, N + 3, N, N + 1]) hkeep
   (.itt (i := 0) (n := min vs.size ws.size) (fun A hA => widenT (WalksT.zip2 hA (N + 4) (N + 2) (N + 3) N (N + 1) a b Ap vs ws) [N + 4, N + 2, N + 3, N, N + 1] ?_ ?_ ?_)
    ⟨hz, hTI, ⟨_, _, hTO⟩, hi1, hi2, hL.at fun o e => hkeep _ _ e, hL2.at fun o e => hkeep _ _ e⟩ (by simp [hlen, hlen2]) ?_ ?_ ?_ ?_) ?_ ?_⟩)
  · exact allC (.head _) (allC (.tail _ (.tail _ (.head _))) (allC (.tail _ (.tail _ (.tail _ (.head _)))) (allC (.tail _ (.tail _ (.tail _ (.tail _ (.head _))))) allN)))
  · exact fun c hc => List.mem_append_left [a, b] hc
  · rintro i h ⟨q1, q2, ⟨x, y, q3⟩, q4, q5, -⟩
    exact allC ⟨_, q1⟩ (allC ⟨_, q2⟩ (allC ⟨_, q3⟩ (allC (q4.imp fun _ h => h.1) (allC (q5.imp fun _ h => h.1) allN))))
  · intro j v p hP hj
    refine x22 hP fun x y hx hy z1 => ?_; clear hP; subst z1
    simp only [Nat.zero_add] at hx hy
    simp only [List.getElem?_map, Option.map_eq_some_iff] at hj
    refine x11 hj fun z1 hz' z2 => ?_; clear hj; obtain ⟨q, q'⟩ := z1; subst z2
    rw [List.getElem?_zip_eq_some] at hz'
    refine x11 (hr.get hz'.1) fun v' hv' hp' => ?_
    refine x11 (hr2.get hz'.2) fun w' hw' hq' => ?_
    have hx' : vs.toList[j]? = some x := by simpa using hx
    have hy' : ws.toList[j]? = some y := by simpa using hy
    rw [hx'] at hv'; obtain rfl := si hv'
    rw [hy'] at hw'; obtain rfl := si hw'
    exact .cons hp' (.cons hq' .nil)
  · exact allC (.inl (.head _)) (allC (.inl (.tail _ (.head _))) (allC (.inl (.tail _ (.tail _ (.head _)))) (allC (.inl (.tail _ (.tail _ (.tail _ (.head _))))) (allC (.inl (.tail _ (.tail _ (.tail _ (.tail _ (.head _)))))) (allC (.inr ⟨_, hk⟩) (allC (.inr ⟨_, hk2⟩) allN))))))
  · rintro i h ⟨q1, q2, ⟨x, y, q3⟩, q4, q5, -⟩
    exact allC ⟨_, q1⟩ (allC ⟨_, q2⟩ (allC ⟨_, q3⟩ (allC (q4.imp fun _ h => h.1) (allC (q5.imp fun _ h => h.1) allN))))
  · exact nd
  · exact nd
  · intro c hc
    have hb' : N ≤ c := by
     simp only [List.mem_cons, List.not_mem_nil, or_false] at hc
     rcases hc with hc | hc | hc | hc | hc <;> rw [hc] <;> first | exact Nat.le_add_right N _ | exact Nat.le_refl N
    cases e : s2.heap.get? c with
    | none => rfl
    | some o => exact absurd (hN ▸ Heap.lt_size e) (Nat.not_lt.mpr hb')) hc
end
section
variable {C : Cx} {k : Nat} {kk fk : PH} {env : Env} {ρ ρ' ρ1 ρ2 : Rho} {tmp : List (Loc × LV)} {s : Shared} {K : Frag} {Kc : Addr}
theorem foldl_app {α : Type} : ∀ (n : Nat) (xs acc : Array α), (List.replicate n xs).foldl (fun a b => a ++ b) acc = acc ++ (List.replicate n xs.toList).flatten.toArray
 | 0, _, acc => by simp
 | n + 1, xs, acc => by
  rw [List.replicate_succ, List.foldl_cons, foldl_app n xs, List.replicate_succ, List.flatten_cons]
  apply Array.ext'
  simp
theorem P2.mulL {xs : List PV} {n : Int} (hne : xs ≠ []) (hlo : -(2 ^ 63 : Int) ≤ n) (hhi : n < 2 ^ 63) (hsz : xs.length * n.toNat ≤ 2 ^ 24) : P2 C k (binaryOp .Mult) (.lst xs) (.int n) (.ol (List.replicate n.toNat xs).flatten) := .mk fun A kk fk env ρ tmp va vb s Q E R S H => by
 refine x40 S fun kp m own tow D => ?_; clear S
 refine x12 D.top fun tow1 _ hb D1 => ?_
 refine x12 D1.top fun tow2 _ ha D2 => ?_
 refine x32 ha.lst_inv' fun a vs z z1 hk hr => ?_; subst z1
 obtain ⟨u, rfl⟩ := hb.int_inv
 have hl := D2.kept _ _ hk
 have hlen := hr.length
 simp at hlen
 have rep : ∀ j : Nat, Rps kp (List.replicate j xs).flatten (List.replicate j vs.toList).flatten := by
  intro j
  induction j with
  | zero => exact .nil
  | succ j ih => simp only [List.replicate_succ, List.flatten_cons]; exact hr.append ih
 have M : Sim C kk fk env ρ ((.many (List.replicate n.toNat xs).flatten, .many (List.replicate n.toNat vs.toList).flatten) :: tmp) s := ⟨kp, m, own, [] :: tow2, { D2 with tmps := .cons (.many (rep _)) D2.tmps, free := fun x h => D2.free x (by simpa using h), apartT := fun x y h e => D2.apartT x y h (by simpa using e), towN := by simpa using D2.towN }⟩
 have N := M.newList s.toks
 refine wpAny_binaryOp_repeat_ref (T := "list") (U := "int") (by decide) ⟨_, hl, rfl⟩ (fun s' => typeIs_int s' n u) noFill_list_mul F.fills_int_mul F.slot_int_rmul repeat_list F.slot_int_index.lookup
  (call_meets F.slot_int_rmul (typeIs_int s n u) F.entry_int_rmul (F.args_int_rmul_2 _ _) (int___rmul___int_list n u a vs z)
   ⟨hl, rfl, ⟨_, hl, rfl⟩, call_meets F.slot_list_mul ⟨_, hl, rfl⟩ F.entry_list_mul (F.args_list_mul_2 _ _)
    (AutoListH.list___mul___list_int_3 a vs z n u (by simp [Builtin.List.listFitsIndex]; omega) (by rw [hlen]; omega) (by simp [Builtin.List.listTooLong, sizeLine]; rw [hlen]; omega)) ⟨hl, ?_⟩⟩)
 have hv : vs.isEmpty = false := by
  cases xs with
  | nil => exact absurd rfl hne
  | cons x r =>
   have : 0 < vs.size := by rw [hlen]; simp
   simpa [Array.isEmpty] using Nat.ne_of_gt this
 refine H _ _ ?_
 simp only [hv, Bool.false_eq_true, if_false]
 have e := foldl_app n.toNat vs #[]
 simp only [Array.empty_append] at e
 rw [e]
 exact N
theorem Rps.ints {kp : PH} : ∀ {ns : List Int} {vs : List Value}, Rps kp (ns.map .int) vs → IntsAre vs ns
 | [], _, .nil => .nil
 | i :: r, _, .cons h hs => by
  obtain ⟨t, rfl⟩ := h.int_inv
  exact .cons _ _ (Rps.ints hs)
theorem P2.inI {ns : List Int} {i : Int} : P2 C k (compareOp .In) (.int i) (.lst (ns.map .int)) (.fr (.bool (ns.any (· == i)))) := .mk fun A kk fk env ρ tmp va vb s Q E R S H => by
 refine x40 S fun kp m own tow D => ?_; clear S
 refine x12 D.top fun tow1 _ hb D1 => ?_
 refine x12 D1.top fun tow2 _ ha D2 => ?_
 obtain ⟨t, rfl⟩ := ha.int_inv
 refine x32 hb.lst_inv' fun a vs z z1 hk hr => ?_; subst z1
 exact in_list_ints (vs := vs.toList) ⟨_, D2.kept _ _ hk, rfl, z, by simp⟩ hr.ints (H _ s ⟨kp, m, own, _, D2.pushFr (.bool _)⟩)
theorem P2.notInI {ns : List Int} {i : Int} : P2 C k (compareOp .NotIn) (.int i) (.lst (ns.map .int)) (.fr (.bool (!ns.any (· == i)))) := .mk fun A kk fk env ρ tmp va vb s Q E R S H => by
 refine x40 S fun kp m own tow D => ?_; clear S
 refine x12 D.top fun tow1 _ hb D1 => ?_
 refine x12 D1.top fun tow2 _ ha D2 => ?_
 obtain ⟨t, rfl⟩ := ha.int_inv
 refine x32 hb.lst_inv' fun a vs z z1 hk hr => ?_; subst z1
 exact notin_list_ints (vs := vs.toList) ⟨_, D2.kept _ _ hk, rfl, z, by simp⟩ hr.ints (H _ s ⟨kp, m, own, _, D2.pushFr (.bool _)⟩)
theorem PN.strI {i : Int} (h : i.natAbs.log2 < 1920) : PN C k (.type "str") [.int i] (.fr (.str (Str.ofString (toString i)))) := .mk fun A kk fk env ρ tmp vs s Q E R S H => by
 refine x52 S.many1 fun v kp m own tow z1 hp D => ?_; subst z1
 obtain ⟨t, rfl⟩ := hp.int_inv
 exact P.str_of_int h (H _ _ (D.outImm (h' := s.heap) (fun _ _ e => e) fun kp => .str _ _))
theorem P2.inS {x y : Str} : P2 C k (compareOp .In) (.str y) (.str x) (.fr (.bool (Txt.contains x y))) := .mk fun A kk fk env ρ tmp va vb s Q E R S H => by
 refine x40 S fun kp m own tow D => ?_; clear S
 refine x12 D.top fun tow1 _ hb D1 => ?_
 refine x12 D1.top fun tow2 _ ha D2 => ?_
 obtain ⟨t, rfl⟩ := ha.str_inv
 obtain ⟨u, rfl⟩ := hb.str_inv
 exact P.in_str (H _ s ⟨kp, m, own, _, D2.pushFr (.bool _)⟩)
end
end Mine
namespace Mine
open PySem PySem.Calls PyProof.Rows PySem.W PySem.Spec PyProof.V
section
variable {C : Cx} {k : Nat} {kk fk : PH} {env : Env} {ρ ρ' ρ1 ρ2 : Rho} {tmp : List (Loc × LV)} {s : Shared} {K : Frag} {Kc : Addr}
noncomputable def pvD : PyData → PV
 | .int i => .int i
 | .str x => .str x
 | .bool b => .bool b
 | _ => .none
noncomputable def easyD : PyData → Bool
 | .int _ | .str _ | .bool _ | .none => true
 | _ => false
theorem flat_rp {kp : PH} {v : Value} {d : PyData} (h : Flat v d) (he : easyD d = true) : Rp kp (pvD d) v := by
 have h := h default
 cases h <;> first | exact .int _ _ | exact .str _ _ | exact .bool _ | exact .none | exact ft he
theorem Sim.keep₀ (S : Sim C kk fk env ρ tmp s) : ∀ b o, C.h₀.get? b = some o → s.heap.get? b = some o := fun b o e => S.in₀ e
theorem P2.inTabS {a : Addr} {D : List (PyData × PyData)} {x : Str} (T : StrTab C.prog C.w C.h₀ a D) : P2 C k (compareOp .In) (.str x) (.con (.ref a)) (.fr (.bool (lookup (.str x) D).isSome)) := .mk fun A kk fk env ρ tmp va vb s Q E R S H => by
 have T' := T.keep S.keep₀
 refine x40 S fun kp m own tow D' => ?_; clear S
 refine x12 D'.top fun tow1 _ hb D1 => ?_
 refine x12 D1.top fun tow2 _ ha D2 => ?_
 obtain ⟨t, rfl⟩ := ha.str_inv
 obtain rfl := hb.con_inv
 exact in_strTab T' (H _ _ (D2.outImm (h' := s.heap) (fun _ _ e => e) fun kp => .bool _))
theorem Ev.itemTabS {v i : Expr} {pos : Pos} {a : Addr} {D : List (PyData × PyData)} {x : Str} {d : PyData} (h1 : Ev C k env ρ v (.fr (.con (.ref a)))) (h2 : Ev C k env ρ i (.fr (.str x))) (T : StrTab C.prog C.w C.h₀ a D) (hl : lookup (.str x) D = some d) (he : easyD d = true)
 (hs : ∀ y z, subscripted i false y z = operate [y, z] (getItem y z) := by intro _ _; with_unfolding_all rfl) (hg : ∀ o r, letTemporaryGo v o r = pure () := by intro _ _; with_unfolding_all rfl) : Ev C k env ρ (.Subscript v i pos) (.fr (pvD d)) := .mk fun A kk fk tmp s Q E R S H =>
 Subscript_ (h1.run A kk fk tmp s _ E R S fun va s1 S1 => h2.run A kk fk _ s1 _ E R S1 fun vb s2 S2 => by
  have T' := T.keep S2.keep₀
  refine x40 S2 fun kp m own tow D' => ?_; clear S2
  refine x12 D'.top fun tow1 _ hb D1 => ?_
  refine x12 D1.top fun tow2 _ ha D2 => ?_
  obtain ⟨t, rfl⟩ := hb.str_inv
  obtain rfl := ha.con_inv
  exact item_strTab T' hl (fun v hv => H v _ (D2.outImm (h' := s2.heap) (fun _ _ e => e) fun kp => flat_rp hv he)) (hs _ _) (hg _))
theorem Ev.getTabI {o e : Expr} {ap pos : Pos} {a : Addr} {D : List (PyData × PyData)} {i : Int} {pl : Sem Bool} (ho : Ev C k env ρ o (.fr (.con (.ref a)))) (h : Ev C k env ρ e (.fr (.int i))) (T : IntTab C.prog C.w C.h₀ a D) (he : easyD ((lookup (.int i) D).getD .none) = true)
 (hc : eval (.Call (.Attribute o "get" ap) [e] [] pos) env = (do
  let ov ← eval o env
  standAt ap.atName
  let (f, first) ← holding [ov] (getMethod ov "get" pl)
  callWith pos f first (backTo pos (starEach [e] env)) []) := by rfl)
 (hE : starEach [e] env = (false, eval e env) :: starEach [] env := by rfl) : Ev C k env ρ (.Call (.Attribute o "get" ap) [e] [] pos) (.fr (pvD ((lookup (.int i) D).getD .none))) := .mk fun A kk fk tmp s Q E R S H =>
 MethodCall_ (pl := pl) (ho.run A kk fk tmp s _ E R S fun ov s1 S1 => by
  have T1 := T.keep S1.keep₀
  refine x12 S1.top fun kp hr _ S1' => ?_
  obtain rfl := hr.con_inv
  refine getMethod_intTab_get T1 (callWith_method1 ((EvL.cons h EvL.nil hE).run pos A kk fk tmp s1 _ E R S1' fun vs s2 S2 => ?_) hE rfl)
  have T2 := T.keep S2.keep₀
  refine x52 S2.many1 fun v kp m own tow z1 hp D' => ?_; subst z1
  obtain ⟨t, rfl⟩ := hp.int_inv
  exact call_get1_intTab T2 fun v hv => H v _ (D'.outImm (h' := s2.heap) (fun _ _ e => e) fun kp => flat_rp hv he)) hc
end
section
variable {C : Cx} {k : Nat} {kk fk : PH} {env : Env} {ρ ρ' ρ1 ρ2 : Rho} {tmp : List (Loc × LV)} {s : Shared} {K : Frag} {Kc : Addr}
theorem setKeep {h h' : Heap} {a : Addr} {S : Int → Bool} {n : Nat} (x : h.SetOf (intKind C.prog C.w) a S n) (hk : ∀ b o, h.get? b = some o → h'.get? b = some o) : h'.SetOf (intKind C.prog C.w) a S n := by
 obtain ⟨o, es, ep, t, ho, r⟩ := x
 exact ⟨o, es, ep, t, hk _ _ ho, r⟩
theorem P2.inSetI {a : Addr} {S : Int → Bool} {n : Nat} {i : Int} (T : C.h₀.SetOf (intKind C.prog C.w) a S n) : P2 C k (compareOp .In) (.int i) (.con (.ref a)) (.fr (.bool (S i))) := .mk fun A kk fk env ρ tmp va vb s Q E R St H => by
 have T' := setKeep T St.keep₀
 refine x40 St fun kp m own tow D' => ?_; clear St
 refine x12 D'.top fun tow1 _ hb D1 => ?_
 refine x12 D1.top fun tow2 _ ha D2 => ?_
 obtain ⟨t, rfl⟩ := ha.int_inv
 obtain rfl := hb.con_inv
 exact wpAny_inSet_of (intKind_is C.prog C.w i t) rfl T' (H _ _ (D2.outImm (h' := s.heap) (fun _ _ e => e) fun kp => .bool _))
end
end Mine
namespace Mine
open PySem PySem.Calls PyProof.Rows PySem.W PySem.Spec PyProof.V PySem.Builtin.Re
def NoneIn (code text : Array Nat) : Prop := ∀ s, s < text.size → ∀ seen, ∃ seen', Sre.inSet code (text.getD s 0) code.size 5 true seen = .ok (false, seen')
theorem admitted_none {m : Sre.M} (hl : m.lim = m.text.size) (h : NoneIn m.code m.text) : ∀ (fuel s : Nat) (seen : Sre.Seen), ∃ seen', Sre.M.admitted m fuel s seen = .ok (none, seen')
 | 0, s, seen => ⟨seen, rfl⟩
 | fuel + 1, s, seen => by
  unfold Sre.M.admitted
  by_cases hs : s ≥ m.lim
  · exact ⟨seen, by rw [if_pos hs]⟩
  · rw [if_neg hs]
    obtain ⟨seen', e⟩ := h s (by omega) seen
    obtain ⟨s2, e2⟩ := admitted_none hl h fuel (s + 1) seen'
    exact ⟨s2, by rw [e]; exact e2⟩
structure Fails (m : Sre.M) : Prop where
 answer : m.answer = some false
 frames : m.frames = []
 outcome : m.outcome = none
theorem attemptFrom_none {m : Sre.M} {b : Nat} (hf : m.hasFirstSet = true) (hl : m.lim = m.text.size) (h : NoneIn m.code m.text) (hfr : m.frames = []) (ho : m.outcome = none) : Fails (m.attemptFrom b true) := by
 unfold Sre.M.attemptFrom
 rw [hf]
 simp only [Bool.not_true, Bool.false_eq_true, if_false]
 obtain ⟨seen', e⟩ := admitted_none hl h (m.lim + 1 - b) b m.seen
 rw [e]
 exact ⟨rfl, hfr, ho⟩
theorem forSearch_none {code text : Array Nat} {g : Nat} (hf : ((match Sre.ops[code.getD 0 0]? with | some .INFO => true | _ => false) && code.getD 2 0 == 4) = true) (h : NoneIn code text) : Fails (Sre.forSearch code text g 0 text.size false) := by
 unfold Sre.forSearch
 dsimp only
 split
 · exact ⟨rfl, rfl, rfl⟩
 · exact attemptFrom_none hf rfl h rfl rfl
section
variable {M : Model} {A : Around} {E : Value → Shared → Prop} {s : Shared}
theorem runFor_fails {m : Sre.M} (h : Fails m) (n : Nat) : (m.runFor (n + 1)).outcome = some .failed ∧ (m.runFor (n + 1)).seen = m.seen := by
 obtain ⟨h1, h2, h3⟩ := h
 have e : m.step = { m with outcome := some .failed } := by
  unfold Sre.M.step
  rw [h3, h1, h2]
  rfl
 have stay : ∀ (n : Nat) (m : Sre.M), m.outcome = some .failed → m.runFor n = m := by
  intro n m hm
  cases n with
  | zero => rfl
  | succ n => unfold Sre.M.runFor; rw [hm]; rfl
 unfold Sre.M.runFor
 rw [h3]
 simp only [Option.isSome_none, Bool.false_eq_true, if_false]
 rw [e, stay n _ rfl]
 exact ⟨rfl, rfl⟩
theorem wpAny_rules {α : Type} (f : α → Bool) (g : α → String) : ∀ (l : List α) (s : Shared) (Q : PUnit → Shared → Prop), Q ⟨⟩ s → wpAny M A (forIn l PUnit.unit fun i r => do
 if f i then rule (g i)
 pure (ForInStep.yield PUnit.unit)) Q E s
 | [], s, Q, h => wpAny_pure h
 | a :: r, s, Q, h => by
  rw [List.forIn_cons]
  refine wpAny_bind ?_
  cases f a with
  | true => exact wpAny_bind (wpAny_rule (wpAny_pure (wpAny_rules f g r s Q h)))
  | false => exact wpAny_pure (wpAny_rules f g r s Q h)
theorem reRun_fails {m : Sre.M} {Q : Option Sre.M → Shared → Prop} (h : Fails m) (H : Q none s) : wpAny M A (reRunToEnd m) Q E s := by
 obtain ⟨e1, e2⟩ := runFor_fails h 3
 unfold reRunToEnd
 refine wpAny_bind ?_
 rw [show (2 ^ 64 : Nat) = 18446744073709551615 + 1 from rfl]
 unfold reDrive
 dsimp only
 rw [show reTurnSteps = 3 + 1 from rfl, e1]
 refine wpAny_pure ?_
 refine wpAny_bind (wpAny_rules _ _ _ _ _ ?_)
 rw [e1]
 exact wpAny_pure H
end
noncomputable def nameCode : Array Nat := #[14, 10, 4, 1, 1, 22, 0, 31, 16, 127, 0, 13, 7, 22, 0, 31, 16, 127, 0, 1]
noncomputable def valueCode : Array Nat := #[14, 14, 4, 1, 1, 9, 4294966783, 0, 0, 2147483648, 0, 0, 0, 0, 0, 13, 11, 9, 4294966783, 0, 0, 2147483648, 0, 0, 0, 0, 0, 1]
theorem none_name {text : Array Nat} (h : ∀ c ∈ text, 32 ≤ c ∧ c ≠ 127) : NoneIn nameCode text := by
 intro s hs seen
 have hc := h (text.getD s 0) (by simp [Array.getD, hs])
 generalize text.getD s 0 = c at hc
 have e : Sre.inSet nameCode c nameCode.size 5 true seen = (if (decide (0 ≤ c) && decide (c ≤ 31)) = true then .ok (true, seen.add 22) else if (c == 127) = true then .ok (true, (seen.add 22).add 16) else .ok (false, ((seen.add 22).add 16).add 0)) := by rfl
 refine ⟨((seen.add 22).add 16).add 0, ?_⟩
 rw [e, if_neg (by simp; omega), if_neg (by simp; exact hc.2)]
theorem none_value {text : Array Nat} (h : ∀ c ∈ text, (32 ≤ c ∧ c ≠ 127) ∨ c = 9) : NoneIn valueCode text := by
 intro s hs seen
 have hc := h (text.getD s 0) (by simp [Array.getD, hs])
 generalize text.getD s 0 = c at hc
 have e : Sre.inSet valueCode c valueCode.size 5 true seen = (if (decide (c < 256) && (valueCode.getD (5 + (1 + c / 32)) 0).testBit (c % 32)) = true then .ok (true, seen.add 9) else .ok (false, (seen.add 9).add 0)) := by rfl
 refine ⟨(seen.add 9).add 0, ?_⟩
 rw [e, if_neg]
 have key : ∀ c, c < 256 → ((32 ≤ c ∧ c ≠ 127) ∨ c = 9) → (valueCode.getD (5 + (1 + c / 32)) 0).testBit (c % 32) = false := by decide +kernel
 by_cases h256 : c < 256
 · rw [key c h256 hc]; simp
 · simp [h256]
theorem slot_search : Slot "re.Pattern" "search" "re.Pattern.search" :=
 .of (owner := "re.Pattern") (n := "search") (by rw [typeLookup_type, builtinLookup_eq_fast]; kernel_rfl) (by decide +kernel) (by decide +kernel) (by decide +kernel)
  (by first | exact .inl (by decide +kernel) | exact .inr (by decide +kernel)) (by rw [isSubtype_type]; kernel_rfl)
theorem type_search : typeOf (.builtin "re.Pattern.search") = pure (.type "method_descriptor") := by show builtinType _ = _; rw [builtinType_eq_fast]; kernel_rfl
theorem entry_search : entryFor table "re.Pattern.search" = some Builtin.«re.Pattern.search» := entryFor_of_tree (by kernel_rfl)
theorem args_search (a b : Value) : argsOk "re.Pattern.search" ⟨[a, b], []⟩ := by unfold argsOk; kernel_rfl
theorem plainAttrs_pattern : PlainAttrs "re.Pattern" := ⟨⟨"object.__getattribute__", by rw [typeLookup_type, builtinLookup_eq_fast]; kernel_rfl, by decide +kernel⟩, by rw [typeLookup_type, builtinLookup_eq_fast]; kernel_rfl⟩
theorem named_search (x : Str) (t : Tok) : reNamed "re.Pattern.search" "search" ["string", "pos", "endpos"] 1 [.str x t] [] = pure [some (.str x t), none, none] := by rfl
def PatAt (h : Heap) (a : Addr) (code : Array Nat) : Prop :=
 ∃ o fs c o2 vs n, h.get? a = some o ∧ o.cls = .type "re.Pattern" ∧ o.dict = none ∧ o.data = .fields fs ∧ (reRawNat (fs.getD 6 .none) == 1) = false ∧ fs.getD 5 .none = .ref c ∧ h.get? c = some o2 ∧ o2.data = .seq vs n ∧ (vs.map reRawOf).map (·.toNat) = code
section
variable {C : Cx} {k : Nat} {kk fk : PH} {env : Env} {ρ ρ' ρ1 ρ2 : Rho} {tmp : List (Loc × LV)} {s : Shared}
theorem PatAt.keep {h h' : Heap} {a : Addr} {code : Array Nat} (x : PatAt h a code) (hk : ∀ b o, h.get? b = some o → h'.get? b = some o) : PatAt h' a code := by
 obtain ⟨o, fs, c, o2, vs, n, h1, h2, h3, h4, h5, h6, h7, r⟩ := x
 exact ⟨o, fs, c, o2, vs, n, hk _ _ h1, h2, h3, h4, h5, h6, hk _ _ h7, r⟩
theorem call_search {A : Around} {a : Addr} {code : Array Nat} {x : Str} {t : Tok} {Q : Value → Shared → Prop} {E : Value → Shared → Prop} (P : PatAt s.heap a code)
 (hf : ((match Sre.ops[code.getD 0 0]? with | some .INFO => true | _ => false) && code.getD 2 0 == 4) = true) (hn : NoneIn code x.cps) (hsz : x.cps.size ≤ 2 ^ 63 - 1) (H : Q .none s) : wpAny (model C.prog C.w) A (call (.builtin "re.Pattern.search") [.ref a, .str x t]) Q E s := by
 obtain ⟨o, fs, c, o2, vs, n, h1, h2, h3, h4, h5, h6, h7, h8, h9⟩ := P
 refine wpAny_call_entry slot_search ⟨o, h1, h2⟩ entry_search ?_ (args_search _ _)
 unfold Builtin.«re.Pattern.search» reTarget
 dsimp only
 refine wpAny_bind ?_
 rw [named_search]
 refine wpAny_bind (wpAny_pure ?_)
 dsimp only
 refine wpAny_bind (wpAny_pure (wpAny_bind (wpAny_pure ?_)))
 refine wpAny_bind (m := fieldsOf (.ref a)) ?_
 unfold fieldsOf
 refine wpAny_bind (wpAny_load h1 ?_)
 rw [h4]
 refine wpAny_pure ?_
 refine wpAny_bind (m := reTextOf (.str x t)) (wpAny_bind (wpAny_pure (wpAny_pure ?_)))
 rw [if_neg (by simp), if_neg (by rw [h5]; simp)]
 refine wpAny_bind (m := reNoCollectionInside (.str x t) 0) (wpAny_pure ?_)
 refine wpAny_bind (m := reRawItems (fs.getD 5 .none)) ?_
 rw [h6]
 refine wpAny_bind (m := seqItems? (.ref c)) (wpAny_seqItems h7 h8 (wpAny_pure (wpAny_pure ?_)))
 dsimp only
 have e1 : min (2 ^ 63 - 1 : Int).toNat x.cps.size = x.cps.size := by
  have : (2 ^ 63 - 1 : Int).toNat = 2 ^ 63 - 1 := by decide
  rw [this]; omega
 have e2 : Array.map (fun x : Int => x.toNat) (Array.map reRawOf ((some vs).getD #[])) = code := h9
 rw [e1, e2]
 unfold reAnswer
 refine wpAny_bind (reRun_fails (forSearch_none hf hn) ?_)
 exact wpAny_pure ⟨.none, rfl, H⟩
theorem Ev.search {o e : Expr} {ap pos : Pos} {a : Addr} {code : Array Nat} {x : Str} {pl : Sem Bool} (ho : Ev C k env ρ o (.fr (.con (.ref a)))) (h : Ev C k env ρ e (.fr (.str x))) (P : PatAt C.h₀ a code)
 (hf : ((match Sre.ops[code.getD 0 0]? with | some .INFO => true | _ => false) && code.getD 2 0 == 4) = true) (hn : NoneIn code x.cps) (hsz : x.cps.size ≤ 2 ^ 63 - 1)
 (hc : eval (.Call (.Attribute o "search" ap) [e] [] pos) env = (do
  let ov ← eval o env
  standAt ap.atName
  let (f, first) ← holding [ov] (getMethod ov "search" pl)
  callWith pos f first (backTo pos (starEach [e] env)) []) := by rfl)
 (hE : starEach [e] env = (false, eval e env) :: starEach [] env := by rfl) : Ev C k env ρ (.Call (.Attribute o "search" ap) [e] [] pos) (.fr .none) := .mk fun A kk fk tmp s Q E R S H =>
 MethodCall_ (pl := pl) (ho.run A kk fk tmp s _ E R S fun ov s1 S1 => by
  have P1 := P.keep S1.keep₀
  refine x12 S1.top fun kp hr _ S1' => ?_
  obtain rfl := hr.con_inv
  refine x63 P1 fun ob fs c o2 vs n q1 q2 q3 _ => ?_; clear P1
  refine getMethod_builtin (T := "re.Pattern") ⟨ob, q1, q2⟩ plainAttrs_pattern slot_search type_search (fun b e => by cases e; exact ⟨ob, q1, q3⟩) ?_
  refine callWith_method1 ((EvL.cons h EvL.nil hE).run pos A kk fk tmp s1 _ E R S1' fun vs s2 S2 => ?_) hE rfl
  have P2 := P.keep S2.keep₀
  refine x52 S2.many1 fun v kp m own tow z1 hp D' => ?_; subst z1
  obtain ⟨t, rfl⟩ := hp.str_inv
  exact call_search P2 hf hn hsz (H _ _ (D'.outImm (h' := s2.heap) (tk := s2.toks) (fun _ _ e => e) fun kp => .none))) hc
end
end Mine
namespace Mine
open PySem PySem.Calls PyProof.Rows PySem.W PySem.Spec PyProof.V PySem.Builtin.Re PySem.Builtin.Str
section
variable {C : Cx} {k : Nat} {kk fk : PH} {env : Env} {ρ ρ' ρ1 ρ2 : Rho} {tmp : List (Loc × LV)} {s : Shared}
theorem P2.neNil {xs : List PV} : P2 C k (compareOp .NotEq) (.lst xs) (.lst []) (.fr (.bool (!xs.isEmpty))) := .mk fun A kk fk env ρ tmp va vb s Q E R S H => by
 refine x40 S fun kp m own tow D => ?_; clear S
 refine x12 D.top fun tow1 _ hb D1 => ?_
 refine x12 D1.top fun tow2 _ ha D2 => ?_
 refine x32 ha.lst_inv' fun a vs n z1 hka hra => ?_; subst z1
 refine x32 hb.lst_inv' fun b ws n2 z1 hkb hrb => ?_; subst z1
 have l1 := hra.length
 have l2 := hrb.length
 simp at l1 l2
 have hL : s.heap.IsList a vs := ⟨_, D2.kept _ _ hka, rfl, n, rfl⟩
 have hL2 : s.heap.IsList b ws := ⟨_, D2.kept _ _ hkb, rfl, n2, rfl⟩
 have hu : A.units < cLine := by have := R.units; omega
 have fin : Q (.bool (!xs.isEmpty)) s := H _ s ⟨kp, m, own, _, D2.pushFr (.bool _)⟩
 show wpAny _ _ (richCompare .NotEq (.ref a) (.ref b)) Q E s
 cases xs with
 | nil => 
  refine SeqAt.RcNeAt.lists (e := fun _ => true) hL hL2 (by rw [l1]; simp [l2]) hu (fun j h1 _ => by simp at l1; simp [l1] at h1) C.prog C.w E Q ?_
  simp at l1
  simpa [l1] using fin
 | cons x r => exact SeqAt.RcNeAt.lists_lengths hL hL2 (by simp [l1, l2]) hu C.prog C.w E Q (by simpa using fin)
theorem Rps.ofStrs {kp : PH} : ∀ (l : List (Str × Tok)), Rps kp ((l.map (·.1)).map .str) (strValues l)
 | [] => .nil
 | (x, t) :: r => .cons (.str x t) (Rps.ofStrs r)
theorem Ev.split {o e : Expr} {ap pos : Pos} {x y : Str} {parts : List Str} (ho : Ev C k env ρ o (.fr (.str x))) (he : Ev C k env ρ e (.fr (.str y))) (hy : (y.length == 0) = false) (h1 : (decide (x.length < y.length) || decide (strKind x < strKind y)) = false)
 (hf : (occurrences x y 0 x.length (x.length + 1)).isEmpty = false) (hx : x.length ≤ sizeLine) (hn : (partsBetween x (occurrences x y 0 x.length (x.length + 1)) y.length).length ≤ sizeLine) (hp : partsBetween x (occurrences x y 0 x.length (x.length + 1)) y.length = parts)
 (hbase : attributeBase o "split" env (eval o env) = eval o env := by rfl) (hs : starEach [e] env = [(false, eval e env)] := by rfl) (hline : (ap.endLine == pos.line) = true := by rfl) :
 Ev C k env ρ (.Call (.Attribute o "split" ap) [e] [] pos) (.ol (parts.map .str)) := .mk fun A kk fk tmp s Q E R S H =>
 Call_method1 hbase hs hline (ho.run A kk fk tmp s _ E R S fun ov s1 S1 => by
  refine x12 S1.top fun kp hp' _ S2 => ?_
  obtain ⟨t, rfl⟩ := hp'.str_inv
  refine ⟨"str", _, F.plainAttrs_str, F.slot_str_split, F.type_str_split, typeIs_str _ _ _, (fun _ e => nomatch e),
   method1_meets F.slot_str_split F.entry_str_split (he.run A kk fk tmp s1 _ E R S2 fun v s3 S3 => ?_)⟩
  refine x12 S3.top fun kp3 hp3 _ S4 => ?_
  obtain ⟨u, rfl⟩ := hp3.str_inv
  refine ⟨typeIs_str _ _ _, F.args_str_split_2 _ _, _, meets_str_split_sep x y t u h1 hy hf hx hn, ?_⟩
  show wants Q E _ { s3 with toks := _, heap := s3.heap.push { cls := .type "list", data := .seq (strsFrom s3.toks (partsBetween x (occurrences x y 0 x.length (x.length + 1)) y.length)).toArray } }
  rw [strsFrom_eq]
  refine x40 S4 fun kp4 m own tow D => ?_; clear S4
  have hr := Rps.ofStrs (kp := kp4) (numbered s3.toks (partsBetween x (occurrences x y 0 x.length (x.length + 1)) y.length))
  rw [numbered_texts, hp] at hr
  rw [hp]
  have M : Sim C kk fk env ρ ((.many (parts.map .str), .many (strValues (numbered s3.toks parts))) :: tmp) s3 := ⟨kp4, m, own, [] :: tow, { D with tmps := .cons (.many (hp ▸ hr)) D.tmps, free := fun x h => D.free x (by simpa using h), apartT := fun x y h e => D.apartT x y h (by simpa using e), towN := by simpa using D.towN }⟩
  exact H _ _ (M.newList _))
end
end Mine
namespace Mine
open PySem PySem.Calls PyProof.Rows PySem.W PySem.Spec PyProof.V
section
variable {C : Cx} {k : Nat} {kk fk : PH} {env : Env} {ρ ρ' ρ1 ρ2 : Rho} {tmp : List (Loc × LV)} {s : Shared}
theorem Binds.kwargs {fd : FuncData} {ps : List PV} {names : List Str} (h : ∀ vs : List Value, vs.length = ps.length → bindArgs fd ⟨vs, []⟩ = (do let d ← alloc { cls := .type "dict", data := .dict #[] }; pure (names.zip (vs ++ [.ref d])))) : Binds C fd ps [] [] names (ps ++ [.dict0]) := .mk fun A kk fk env ρ tmp vs ks s Q E hA S H => by
 have S1 : Sim C kk fk env ρ ((.many ps, .many vs) :: tmp) s := S.pop
 show wpAny _ _ (bindArgs fd ⟨vs, ([] : List Str).zip ks⟩) _ _ _
 rw [show ([] : List Str).zip ks = [] from rfl, h vs S1.manyLen]
 refine wpAny_bind (wpAny_alloc (wpAny_pure (H _ _ ?_)))
 refine x40 S1 fun kp m own tow D => ?_; clear S1
 refine x12 D.topMany fun tow' _ hp D' => ?_
 obtain ⟨D2, hle⟩ := D'.allocKp { cls := .type "dict", data := .dict #[] } rfl s.toks
 exact ⟨_, m, own, [] :: tow', { D2 with tmps := .cons (.many ((hp.mono hle).append (.cons (.dict0 (a := s.heap.objs.size) (by simp)) .nil))) D2.tmps, free := fun x h => D2.free x (by simpa using h), apartT := fun x y h e => D2.apartT x y h (by simpa using e), towN := by simpa using D2.towN }⟩
theorem Ex.forItems0 {t : Expr} {body : List Stmt} {x : Str} {px ap cpos pos : Pos} (hx : ρ x = some (.fr .dict0)) (hsm : ∃ o, C.h₀.get? sysModules = some o ∧ o ≠ { cls := .type "dict", data := .dict #[] }) (hd : (x == ("__debug__" : Str)) = false := by decide)
 (hbase : attributeBase (.Name x px) "items" env (eval (.Name x px) env) = eval (.Name x px) env := by rfl) (hline : (ap.endLine == cpos.line) = true := by rfl)
 (hs : ∀ z, foldedSetIterable (.Call (.Attribute (.Name x px) "items" ap) [] [] cpos) env z = pure z := by intro _; rfl) :
 Ex C k env ρ (.For t (.Call (.Attribute (.Name x px) "items" ap) [] [] cpos) body [] pos) .next ρ := .mk fun A kk fk tmp s Q E R W S H => by
 have K0 := S.keep₀
 refine x40 S fun kp m own tow D => ?_; clear S
 refine x11 (D.vars x _ hx) fun v hv r => ?_
 obtain ⟨hp, -⟩ := r.fr_inv
 cases hp with
 | @dict0 d hk =>
 have ho := D.kept _ _ hk
 have hlo : (d == sysModules) = false := by
  apply Bool.eq_false_iff.mpr
  intro e
  have e : d = sysModules := by simpa using e
  obtain ⟨o, h1, h2⟩ := hsm
  have := K0 _ _ h1
  rw [← e, ho] at this
  exact h2 (Option.some.inj this).symm
 have hm : s.heap.DictOf (intKind C.prog C.w) d [] := ⟨_, #[], 0, ho, ⟨rfl, rfl, rfl⟩, rfl, fun e he => by simp at he, .nil, by simp⟩
 refine wpAny_For (wpAny_Call_items hlo hm hbase hline (fun Q' h' => D.name hv h' hd) ?_) hs
 have hm2 : (s.heap.push { cls := .type "dict_items", data := .fields #[.ref d] }).DictAt (intKind C.prog C.w) d [] 0 := ⟨_, #[], Heap.get?_push_of_some _ ho, ⟨rfl, rfl, rfl⟩, rfl, fun e he => by simp at he, .nil, by simp⟩
 refine wpAny_pyIter_items ⟨_, Heap.get?_push_size _ rfl, rfl, rfl⟩ hm2 ?_
 refine codeAny_forLoop_any (fun n s' => s' = _) ?_ 0 rfl
 rintro n s' rfl
 refine wpAny_pyNext_items_end (knd := intKind C.prog C.w) (kvs := []) R.handled (Heap.get?_push_size _ rfl) (hm2.at fun o e => Heap.get?_push_of_some _ e) (by simp) fun h' he => ?_
 refine wpAny_execs_nil (H _ ⟨kp, m, own, tow, D.grow (h' := h') (tk := s.toks) fun c o e => he c o (fun q => ?_) (Heap.get?_push_of_some _ (Heap.get?_push_of_some _ e))⟩)
 have := Heap.lt_size e
 rw [q, Heap.size_push] at this
 exact absurd this (Nat.not_lt.mpr (Nat.le_succ _))
end
section
variable {C : Cx} {k : Nat} {kk fk : PH} {env : Env} {ρ ρ' ρ1 ρ2 : Rho} {tmp : List (Loc × LV)} {s : Shared} {K : Frag} {Kc : Addr}
theorem Pt.none : Pt C k .none false := .mk fun A kk fk env ρ tmp v s Q E R S H => by
 refine x12 S.top fun kp h _ S1 => ?_
 obtain rfl := h.none_inv
 exact PyProof.Rows.truthy_none (H s S1)
theorem Ev.clsAttr {e : Expr} {n : Str} {pos : Pos} {v mc : Value} {p : PV} (h : Ev C k env ρ e (.fr (.con (.ref Kc)))) (X : K.In C.h₀) (hr : readsIn K Kc mc = true) (hf : findCls K (.ref Kc) mc n = some (.val v)) (hh : handedIn v = true) (hp : Imm p v)
 (he : eval (.Attribute e n pos) env = (do
  let o ← eval e env
  standAt pos.atName
  let r ← holding [o] (getAttr o n true)
  letTemporaryGo e o r
  pure r) := by with_unfolding_all rfl) : Ev C k env ρ (.Attribute e n pos) (.fr p) := .mk fun A kk fk tmp s Q E R S H =>
 Attribute_any_ (h.run A kk fk tmp s _ E R S fun o s1 S1 => by
  have Xs := S1.frag X
  refine x40 S1 fun kp m own tow D => ?_; clear S1
  refine x12 D.top fun tow' _ hr' D' => ?_
  obtain rfl := hr'.con_inv
  exact cls_value Xs hr hf hh (H v _ (D'.outImm (h' := s1.heap) (fun _ _ e => e) hp))) he
theorem CLoop.name {x : Str} {px : Pos} {ifs : List Expr} {elt : Expr} {base : Rho} (hx : Stores env x) (keep : PV → Bool) (f : PV → PV) : ∀ (xs : List PV) (L : Loc) (ρ : Rho), Steps C (.Name x px) L xs → (∀ l, upd ρ x l = upd base x l) →
 (∀ p ∈ xs, TsF C k env (upd base x (.fr p)) ifs (keep p)) → (∀ p ∈ xs, keep p = true → Ev C k env (upd base x (.fr p)) elt (.fr (f p))) → CLoop C k env (.Name x px) ifs elt L ρ ((xs.filter keep).map f)
 | [], L, ρ, hs, _, _, _ => by cases hs with | nil h => exact .nil h
 | p :: xs, L, ρ, hs, hρ, ht, he => by
  cases hs with
  | cons h r =>
  have ha : As C k env ρ (.Name x px) p (upd base x (.fr p)) := hρ (.fr p) ▸ As.name hx
  have tl := CLoop.name hx keep f xs _ (upd base x (.fr p)) r (fun l => upd_upd) (fun q hq => ht q (List.mem_cons_of_mem _ hq)) (fun q hq => he q (List.mem_cons_of_mem _ hq))
  have h1 := ht p List.mem_cons_self
  cases hk : keep p with
  | false =>
   rw [hk] at h1
   rw [List.filter_cons_of_neg (by simp [hk])]
   exact .skip h ha h1 tl
  | true =>
   rw [hk] at h1
   rw [List.filter_cons_of_pos (by simp [hk]), List.map_cons]
   exact .keep h ha h1 (he p List.mem_cons_self hk) tl
end
def Rho.le (ρ₂ ρ : Rho) : Prop := ∀ x l, ρ₂ x = some l → ρ x = some l
section
variable {C : Cx} {k : Nat} {kk fk : PH} {env : Env} {ρ ρ' ρ1 ρ2 : Rho} {tmp : List (Loc × LV)} {s : Shared}
theorem Sim.weaken (S : Sim C kk fk env ρ tmp s) (h : Rho.le ρ2 ρ) : Sim C kk fk env ρ2 tmp s := by
 classical
 refine x40 S fun kp m own tow D => ?_; clear S
 have sub : ∀ x a, a ∈ (if ρ2 x = none then [] else own x) → a ∈ own x := fun x a h => by
  split at h
  · cases h
  · exact h
 refine ⟨kp, m, fun x => if ρ2 x = none then [] else own x, tow, { D with
  vars := fun x l e => ?_
  noVar := fun x e => by simp [e]
  free := fun a h => D.free a (h.imp (fun ⟨x, hx⟩ => ⟨x, sub x a hx⟩) id)
  apart := fun x y a h1 h2 => D.apart x y a (sub x a h1) (sub y a h2)
  apartT := fun x a h e => D.apartT x a (sub x a h) e }⟩
 refine x11 (D.vars x l (h x l e)) fun v hv r => ?_
 exact ⟨v, hv, by rw [if_neg (by rw [e]; simp)]; exact r⟩
theorem Exs.pre {ss : List Stmt} {o : Out} (hle : Rho.le ρ2 ρ) (h : Exs C k env ρ2 ss o ρ') : Exs C k env ρ ss o ρ' := .mk fun A kk fk tmp s Q E R W S H => h.run A kk fk tmp s Q E R W (S.weaken hle) H
theorem OutQ.post {o : Out} {Q : Flow → Shared → Prop} (hle : Rho.le ρ2 ρ) (H : OutQ C kk fk env ρ2 tmp Q o) : OutQ C kk fk env ρ tmp Q o := by
 cases o with
 | next => exact fun s' S => H s' (S.weaken hle)
 | brk => exact fun s' S => H s' (S.weaken hle)
 | cont => exact fun s' S => H s' (S.weaken hle)
 | ret l => exact fun v s' S => H v s' (S.weaken hle)
theorem Exs.post {ss : List Stmt} {o : Out} (hle : Rho.le ρ2 ρ') (h : Exs C k env ρ ss o ρ') : Exs C k env ρ ss o ρ2 := .mk fun A kk fk tmp s Q E R W S H => h.run A kk fk tmp s Q E R W S (OutQ.post hle H)
theorem Ex.post {st : Stmt} {o : Out} (hle : Rho.le ρ2 ρ') (h : Ex C k env ρ st o ρ') : Ex C k env ρ st o ρ2 := .mk fun A kk fk tmp s Q E R W S H => h.run A kk fk tmp s Q E R W S (OutQ.post hle H)
theorem Rho.le.refl : Rho.le ρ ρ := fun _ _ e => e
theorem Rho.le.upd {x : Str} {l : Loc} (h : Rho.le ρ2 ρ) (hx : ρ2 x = none ∨ ρ2 x = some l) : Rho.le ρ2 (Mine.upd ρ x l) := fun y l' e => by
 unfold Mine.upd
 by_cases hy : y = x
 · subst hy
   simp only [if_true]
   rcases hx with hx | hx
   · rw [hx] at e; exact no e
   · rw [← hx, e]
 · simp only [if_neg hy]; exact h y l' e
theorem Rho.le.upd2 {x : Str} {l : Loc} (h : Rho.le ρ2 ρ) : Rho.le (Mine.upd ρ2 x l) (Mine.upd ρ x l) := fun y l' e => by
 unfold Mine.upd at e ⊢
 by_cases hy : y = x
 · simpa [hy] using e
 · simp only [if_neg hy] at e ⊢; exact h y l' e
end
section
variable {C : Cx} {k : Nat} {env : Env}
theorem LoopL.fold {σ : Type} {t : Expr} {body : List Stmt} (inv : σ → Rho) (step : σ → PV → σ) : ∀ (xs : List PV) (L : Loc) (st : σ), Steps C t L xs →
 (∀ st p, p ∈ xs → ∃ ρ1, As C k env (inv st) t p ρ1 ∧ Exs C k env ρ1 body .next (inv (step st p))) → LoopL C k env t body L (inv st) .next (inv (xs.foldl step st))
 | [], L, st, hs, _ => by cases hs with | nil h => exact .nil h
 | p :: xs, L, st, hs, h => by
  cases hs with
  | cons q r =>
  refine x11 (h st p List.mem_cons_self) fun ρ1 h1 h2 => ?_
  exact .next q h1 h2 (LoopL.fold inv step xs _ (step st p) r fun st q hq => h st q (List.mem_cons_of_mem _ hq))
theorem LoopL.foldI {σ : Type} {t : Expr} {body : List Stmt} (inv : σ → Rho) (step : σ → PV → σ) (I : List PV → σ → Prop) : ∀ (xs : List PV) (L : Loc) (st : σ), Steps C t L xs → I xs st →
 (∀ st p xs, I (p :: xs) st → I xs (step st p) ∧ ∃ ρ1, As C k env (inv st) t p ρ1 ∧ Exs C k env ρ1 body .next (inv (step st p))) → LoopL C k env t body L (inv st) .next (inv (xs.foldl step st))
 | [], L, st, hs, _, _ => by cases hs with | nil h => exact .nil h
 | p :: xs, L, st, hs, hI, h => by
  cases hs with
  | cons q r =>
  obtain ⟨h0, ρ1, h1, h2⟩ := h st p xs hI
  exact .next q h1 h2 (LoopL.foldI inv step I xs _ (step st p) r h0 h)
end
theorem divSmall {i j : Int} (h : j.natAbs < 2 ^ 64) : Builtin.divisionGoesByPylong i j = false := by
 have hl : j.natAbs.log2 ≤ 63 := by
  by_cases h0 : j.natAbs = 0
  · rw [h0]; decide
  · have := (Nat.log2_lt h0).mpr h; omega
 unfold Builtin.divisionGoesByPylong
 dsimp only
 have : (decide ((if (j == 0) = true then 0 else j.natAbs.log2 / 30 + 1) > 300)) = false := by
  apply decide_eq_false
  split <;> omega
 rw [this, Bool.false_and]
section
variable {C : Cx} {k : Nat} {kk fk : PH} {env : Env} {ρ : Rho} {tmp : List (Loc × LV)} {s : Shared}
theorem Ev.neg {e : Expr} {pos : Pos} {i : Int} (h : Ev C k env ρ e (.fr (.int i))) : Ev C k env ρ (.UnaryOp .USub e pos) (.fr (.int (-i))) := .mk fun A kk fk tmp s Q E R S H =>
 PySem.wpAny_UnaryOp (h.run A kk fk tmp s _ E R S fun v s1 S1 => by
  refine x12 S1.top fun kp hp _ S2 => ?_
  obtain ⟨t, rfl⟩ := hp.int_inv
  exact PyProof.Rows.neg_int (H _ _ ((S2.toks _).pushImm fun _ => .int _ _)))
theorem P2.powI {i j : Int} (h0 : 0 ≤ j) (h1 : j ≤ 1000000) (hi : i.natAbs < 2 ^ 64) : P2 C k (binaryOp .Pow) (.int i) (.int j) (.fr (.int (i ^ j.toNat))) := .ii fun A s t u Q E R H => PyProof.Rows.pow_int_small h0 h1 hi (H _ _ fun _ => .int _ _)
end
end Mine
namespace Mine
open PySem PySem.Calls PyProof.Rows PySem.W
section
variable {C : Cx} {k : Nat} {kk fk : PH} {env : Env} {ρ ρ' ρ1 ρ2 : Rho} {tmp : List (Loc × LV)} {s : Shared}
theorem Ex.assignSwap2 {x y : Str} {elts : List Expr} {n : Nat} {tp pos : Pos} {e : Expr} {p q : PV} (h : Ev C k env ρ e (.fr (.tup [p, q]))) (hx : Stores env x) (hy : Stores env y) (hs : swapsWithSole [.Tuple elts n tp] e pos.line env = pure false := by rfl)
 (hw : swappedStores [.Tuple elts n tp] e env = pure (some [x, y]) := by rfl) : Ex C k env ρ (.Assign [.Tuple elts n tp] e pos) .next (upd (upd ρ y (.fr q)) x (.fr p)) := .mk fun A kk fk tmp s Q E R W S H =>
 Assign_Tuple_swapped (names := [x, y]) (h.run A kk fk tmp s _ E R S fun v s1 S1 => by
  refine x40 S1 fun kp m own tow D => ?_; clear S1
  refine x12 D.top fun tow' _ hp D' => ?_
  refine x44 hp.tup_inv fun a o vs z z1 hk hc hd hr => ?_; subst z1
  have ht : IsTup s1.heap a vs := ⟨o, D.kept _ _ hk, hc, z, hd⟩
  have hl := hr.length
  obtain ⟨l⟩ := vs
  simp only [] at hr hl
  cases hr with
  | @cons _ _ v1 _ h1 hr =>
  cases hr with
  | @cons _ _ v2 _ h2 hr =>
  cases hr with
  | nil =>
  show wpAny _ _ (unpackItems (.ref a) (#[v1, v2] : Array Value).size none) _ _ _
  refine unpackItems_tuple R.handled ht fun h' he => ?_
  have G := D'.grow (h' := h') (tk := s1.toks) fun b o e => he b o (Nat.ne_of_lt (Heap.lt_size e)) e
  have G2 : Sim C kk fk env ρ ((.fr q, .one v2) :: (.fr p, .one v1) :: tmp) { s1 with heap := h' } := ⟨kp, m, own, _, (G.pushFr h1).pushFr h2⟩
  refine assignInOrder_cons (bindName_ (G2.store W hy fun s2 S2 => ?_))
  refine assignInOrder_cons (bindName_ (S2.store W hx fun s3 S3 => ?_))
  exact wpAny_pure (H s3 S3)) hs hw
end
section
variable {C : Cx} {k : Nat} {kk fk : PH} {env : Env} {ρ ρ' ρ1 ρ2 : Rho} {tmp : List (Loc × LV)} {s : Shared}
theorem PN.maxL {ns : List Int} {M : Int} (hM : M ∈ ns) (hmax : ∀ a ∈ ns, a ≤ M) : PN C k (.builtin "max") [.lst (ns.map .int)] (.fr (.int M)) := .mk fun A kk fk env ρ tmp vs s Q E R S H => by
 refine x52 S.many1 fun v kp m own tow z1 hp D => ?_; subst z1
 refine x32 hp.lst_inv' fun a vs n z1 hk hr => ?_; subst z1
 have hl : s.heap.IsList a vs := ⟨_, D.kept _ _ hk, rfl, n, rfl⟩
 have hi := hr.ints
 obtain ⟨xs, hxs⟩ := hi.allInts.items
 replace hxs : vs = intItems xs := hxs
 have hn : numsOf (intItems xs).toList = ns := by rw [← hxs]; exact hi.numsOf
 rw [hxs] at hl
 rw [nums_intItems] at hn
 have hsz : 0 < xs.size := by
  have : 0 < ns.length := List.length_pos_of_mem hM
  rw [← hn] at this
  simpa using this
 refine max_intList R.handled hl hsz fun v h' tk hv hk => ?_
 obtain ⟨t, rfl⟩ := intItems_at hv
 obtain ⟨h1, h2⟩ := argBest_gt (numAt xs) (xs.size - 1)
 have e : numAt xs (argBest (fun i j => decide (numAt xs i > numAt xs j)) (xs.size - 1)) = M := by
  apply Int.le_antisymm
  · apply hmax
    rw [← hn, numAt_eq]
    exact getD_mem (by rw [List.length_map, Array.length_toList]; omega)
  · have ha := hM
    rw [← hn] at ha
    refine x11 (mem_getD ha) fun j hj e => ?_
    rw [List.length_map, Array.length_toList] at hj
    rw [← e, ← numAt_eq]; exact h2 j (by omega)
 rw [e]
 exact H _ _ (D.outImm hk fun kp => .int _ _)
end
section
variable {C : Cx} {k : Nat} {kk fk : PH} {env : Env} {ρ ρ' ρ1 ρ2 : Rho} {tmp : List (Loc × LV)} {s : Shared}
theorem Iter.tup {xs : List PV} : Iter C k (.tup xs) xs := .mk fun A kk fk env ρ tmp v s Q E R S H => by
 refine x40 S fun kp m own tow D => ?_; clear S
 refine x12 D.top fun tow' _ hp D' => ?_
 refine x44 hp.tup_inv fun a o vs n z1 hk hc hd hr => ?_; subst z1
 have hl : s.heap.IsTuple a vs := ⟨o, D.kept _ _ hk, hc, n, hd⟩
 have hne : a ≠ s.heap.objs.size := Nat.ne_of_lt (Heap.lt_size (D.kept _ _ hk))
 refine wpAny_pyIter_tuple hl (H _ _ ⟨kp, m, own, _, D'.pushNew { cls := .type "tuple_iterator", data := .fields #[.ref a, .int 0 0] } s.toks
  (.itr (i := 0) (fun A hA => Walks.tuple hA s.heap.objs.size a hne vs) ⟨⟨_, Heap.get?_push_size _ rfl, rfl, rfl⟩, hl.push _⟩ ?_ ?_ ?_ ?_ (by simp) ?_)⟩)
 · have := hr.length; simp at this; omega
 · intro j v p hP hj
   obtain ⟨v', hv', hp'⟩ := hr.get hj
   have hP' : vs[j]? = some v := by simpa using hP
   rw [Array.getElem?_toList, hP'] at hv'
   cases hv'; exact hp'
 · intro b hb
   simp at hb
   rcases hb with rfl | rfl
   · exact .inl (by simp)
   · exact .inr ⟨o, hk⟩
 · rintro i h ⟨⟨o', e, _⟩, _⟩ b hb
   simp at hb; subst hb; exact ⟨o', e⟩
 · rintro i h ⟨⟨o', e, hc', hd'⟩, _⟩
   exact ⟨o', e, by unfold NoOwned; rw [hc', hd']; dsimp only; decide⟩
end
section
variable {C : Cx} {k : Nat} {kk fk : PH} {env : Env} {ρ ρ' ρ1 ρ2 : Rho} {tmp : List (Loc × LV)} {s : Shared} {K : Frag} {Kc : Addr}
theorem Binds.over {fd : FuncData} {ps : List PV} {names : List Str} {T : Addr} {o : Obj} {items : Array Value} {n : Nat} (hd : fd.defaults = .ref T) (ho : C.h₀.get? T = some o) (hs : o.data = .seq items n)
 (h : ∀ vs : List Value, vs.length = ps.length → ∃ kf, bindArgs fd ⟨vs, []⟩ = seqItems? fd.defaults >>= kf ∧ kf (some items) = pure (names.zip vs)) : Binds C fd ps [] [] names ps := .mk fun A kk fk env ρ tmp vs ks s Q E hA S H => by
 refine x11 (h vs S.pop.manyLen) fun kf h1 h2 => ?_
 show wpAny _ _ (bindArgs fd ⟨vs, ([] : List Str).zip ks⟩) _ _ _
 rw [show ([] : List Str).zip ks = [] from rfl, h1, hd]
 refine wpAny_bind (wpAny_seqItems (S.in₀ ho) hs ?_)
 rw [h2]
 exact wpAny_pure (H _ s S.pop)
theorem Ex.callOwn {x n : Str} {px apos pos spos : Pos} {e : Expr} {es : List Expr} {q : Option (Addr × Addr)} {fl : Str} {xs xs' : List PV} {args bps : List PV} {f : Addr} {fd : FuncData} {body : List Stmt} {names : List Str} {pl : Sem Bool} {l : Loc}
 (hx : ρ x = some (.hd q Kc fl xs)) (ha : ∀ a b, EvL C (k + 1) env (upd ρ x (.hd (some (a, b)) Kc fl xs)) (e :: es) args) (X : K.In C.h₀) (O : ClsOk K Kc) (M : MethIs K Kc n f) (hn : n ≠ fl)
 (F : IsDef C f fd names body) (hb : ∀ a, Binds C fd (.con (.ref a) :: args) [] [] names (.con (.ref a) :: bps)) (hl : names.length = bps.length + 1)
 (h : ∀ L a b, BodyW C k (callEnvC fd L f) (bindR (names.zip (.con (.ref a) :: bps)) fun _ => none) (.hd (some (a, b)) Kc fl xs) (.one (.ref a)) body l (.hd (some (a, b)) Kc fl xs'))
 (hd : (x == ("__debug__" : Str)) = false := by decide)
 (hc : eval (.Call (.Attribute (.Name x px) n apos) (e :: es) [] pos) env = (do
  let ov ← eval (.Name x px) env
  standAt apos.atName
  let (f, first) ← holding [ov] (getMethod ov n pl)
  callWith pos f first (backTo pos (starEach (e :: es) env)) []) := by rfl)
 (he : starEach (e :: es) env = (false, eval e env) :: starEach es env := by rfl) (hplain : (backTo pos (starEach es env)).any (·.1) = false := by rfl)
 (hi : interactive env = false := by rfl) (hs : swapsWith (.Call (.Attribute (.Name x px) n apos) (e :: es) [] pos) none spos.line env = pure false := by rfl) :
 Ex C (k + 1) env ρ (.Expr (.Call (.Attribute (.Name x px) n apos) (e :: es) [] pos) spos) .next (upd ρ x (.hd none Kc fl xs')) := .mk fun A kk fk tmp s Q E R W S H =>
 wpAny_Expr_any (Ex.methOwn (spos := spos) hx ha X O M hn F hb hl h hd hc he hplain A kk fk tmp s _ E R S fun v s1 S1 => H s1 S1.pop) hi hs
end
section
variable {C : Cx} {k : Nat} {kk fk : PH} {env : Env} {ρ ρ' ρ1 ρ2 : Rho} {tmp : List (Loc × LV)} {s : Shared} {K : Frag} {Kc : Addr}
theorem Ev.itemOwn {x : Str} {px pos : Pos} {ie : Expr} {b : Addr} {xs : List PV} {i : Int} {p : PV} (hx : ρ x = some (.oa b xs)) (hi : Ev C k env ρ ie (.fr (.int i))) (h0 : 0 ≤ i) (hhi : i < 2 ^ 63) (hp : xs[i.toNat]? = some p)
 (hd : (x == ("__debug__" : Str)) = false := by decide)
 (hs : ∀ y z, subscripted ie false y z = operate [y, z] (getItem y z) := by intro _ _; with_unfolding_all rfl) : Ev C k env ρ (.Subscript (.Name x px) ie pos) (.fr p) := .mk fun A kk fk tmp s Q E R S H =>
 Subscript_ (by
  refine x40 (id S) fun kp m own tow D => ?_
  refine x11 (D.vars x _ hx) fun v hv r => ?_
  obtain rfl := hasAddr.oa _ _ _ _ _ r
  refine D.name hv ?_ hd
  refine hi.run A kk fk _ s _ E R S fun iv s2 S2 => ?_
  refine x40 S2 fun kp2 m2 own2 tow2 D2 => ?_; clear S2
  refine x12 D2.top fun tow3 _ hpi D3 => ?_
  obtain ⟨t, rfl⟩ := hpi.int_inv
  refine x11 (D3.vars x _ hx) fun v2 hv2 r2 => ?_
  generalize own2 x = ow2 at r2
  cases r2 with
  | @oa _ _ vs2 hl2 hs2 =>
  refine x11 (hs2.get hp) fun v hv hp' => ?_
  have hl : s2.heap.IsList b vs2 := let ⟨n, e⟩ := hl2; ⟨_, e, rfl, n, rfl⟩
  exact tail_any hl.typeIs slot_list_getitem.lookup (wpAny_getItem_list hl h0 hhi (by simpa using hv) (H v s2 ⟨kp2, m2, own2, _, D3.pushFr hp'⟩)) (hs _ _))
end
end Mine
namespace Mine
open PySem PySem.Calls PyProof.Rows
section
variable {C : Cx} {k : Nat} {kk fk : PH} {env : Env} {ρ ρ' ρ1 ρ2 : Rho} {tmp : List (Loc × LV)} {s : Shared}
theorem Ev.orB {e1 e2 : Expr} {pos : Pos} {x y : Bool} (h1 : Ev C k env ρ e1 (.fr (.bool x))) (h2 : x = false → Ev C k env ρ e2 (.fr (.bool y))) : Ev C k env ρ (.BoolOp .Or [e1, e2] pos) (.fr (.bool (x || y))) := .mk fun A kk fk tmp s Q E R S H =>
 BoolOp_or (h1.run A kk fk tmp s _ E R S fun v s1 S1 => by
  refine x12 S1.top fun kp h _ S2 => ?_
  obtain rfl := h.bool_inv
  refine wpAny_truthy_bool ?_
  cases x with
  | true => exact H _ s1 S1
  | false => exact BoolOp_one ((h2 rfl).run A kk fk tmp s1 Q E R S2 H))
theorem CLoop.two {α : Type} {x y : Str} {px py : Pos} {n : Nat} {tp : Pos} {ifs : List Expr} {elt : Expr} {base : Rho} (hx : Stores env x) (hy : Stores env y) (hxy : x ≠ y) (g1 g2 : α → PV) (keep : α → Bool) (f : α → PV) : ∀ (xs : List α) (L : Loc) (ρ : Rho), Steps C (.Tuple [.Name x px, .Name y py] n tp) L (xs.map fun a => .tup [g1 a, g2 a]) → (∀ l l', upd (upd ρ x l) y l' = upd (upd base x l) y l') →
 (∀ p ∈ xs, TsF C k env (upd (upd base x (.fr (g1 p))) y (.fr (g2 p))) ifs (keep p)) → (∀ p ∈ xs, keep p = true → Ev C k env (upd (upd base x (.fr (g1 p))) y (.fr (g2 p))) elt (.fr (f p))) → CLoop C k env (.Tuple [.Name x px, .Name y py] n tp) ifs elt L ρ ((xs.filter keep).map f)
 | [], L, ρ, hs, _, _, _ => by cases hs with | nil h => exact .nil h
 | p :: xs, L, ρ, hs, hρ, ht, he => by
  cases hs with
  | cons h r =>
  have ha : As C k env ρ (.Tuple [.Name x px, .Name y py] n tp) (.tup [g1 p, g2 p]) (upd (upd base x (.fr (g1 p))) y (.fr (g2 p))) := by
   rw [← hρ]
   exact As.tup (AsL.cons (As.name hx) (AsL.cons (As.name hy) AsL.nil))
  have tl := CLoop.two hx hy hxy g1 g2 keep f xs _ (upd (upd base x (.fr (g1 p))) y (.fr (g2 p))) r (fun l l' => by
   funext z
   unfold upd
   by_cases h1 : z = y
   · simp [h1]
   · by_cases h2 : z = x
     · simp [h1, h2]
     · simp [h1, h2]) (fun q hq => ht q (List.mem_cons_of_mem _ hq)) (fun q hq => he q (List.mem_cons_of_mem _ hq))
  have h1 := ht p List.mem_cons_self
  cases hk : keep p with
  | false =>
   rw [hk] at h1
   rw [List.filter_cons_of_neg (by simp [hk])]
   exact .skip h ha h1 tl
  | true =>
   rw [hk] at h1
   rw [List.filter_cons_of_pos (by simp [hk]), List.map_cons]
   exact .keep h ha h1 (he p List.mem_cons_self hk) tl
theorem CLoop.nameA {α : Type} {x : Str} {px : Pos} {ifs : List Expr} {elt : Expr} {base : Rho} (hx : Stores env x) (g : α → PV) (keep : α → Bool) (f : α → PV) : ∀ (xs : List α) (L : Loc) (ρ : Rho), Steps C (.Name x px) L (xs.map g) → (∀ l, upd ρ x l = upd base x l) →
 (∀ p ∈ xs, TsF C k env (upd base x (.fr (g p))) ifs (keep p)) → (∀ p ∈ xs, keep p = true → Ev C k env (upd base x (.fr (g p))) elt (.fr (f p))) → CLoop C k env (.Name x px) ifs elt L ρ ((xs.filter keep).map f)
 | [], L, ρ, hs, _, _, _ => by cases hs with | nil h => exact .nil h
 | p :: xs, L, ρ, hs, hρ, ht, he => by
  cases hs with
  | cons h r =>
  have ha : As C k env ρ (.Name x px) (g p) (upd base x (.fr (g p))) := hρ (.fr (g p)) ▸ As.name hx
  have tl := CLoop.nameA hx g keep f xs _ (upd base x (.fr (g p))) r (fun l => upd_upd) (fun q hq => ht q (List.mem_cons_of_mem _ hq)) (fun q hq => he q (List.mem_cons_of_mem _ hq))
  have h1 := ht p List.mem_cons_self
  cases hk : keep p with
  | false =>
   rw [hk] at h1
   rw [List.filter_cons_of_neg (by simp [hk])]
   exact .skip h ha h1 tl
  | true =>
   rw [hk] at h1
   rw [List.filter_cons_of_pos (by simp [hk]), List.map_cons]
   exact .keep h ha h1 (he p List.mem_cons_self hk) tl
end
end Mine
namespace Mine
open PySem PySem.Calls PyProof.Rows PySem.W
section
variable {C : Cx} {k : Nat} {kk fk : PH} {env : Env} {ρ ρ' ρ1 ρ2 : Rho} {tmp : List (Loc × LV)} {s : Shared} {K : Frag} {Kc : Addr}
theorem Ev.sliceLT {e : Expr} {lo hi st : Option Expr} {p pos : Pos} {xs : List PV} {l u d : Option Int} (h : Ev C k env ρ e (.fr (.lst xs))) (hl : EvP C k env ρ lo l) (hu : EvP C k env ρ hi u) (hd : EvP C k env ρ st d) (h0 : d ≠ some 0) (hsz : xs.length ≤ sizeLine)
 (hs : ∀ o i, subscripted (.Slice lo hi st p) false o i = operate [i, o] (getItem o i) := by intro _ _; rfl) : Ev C k env ρ (.Subscript e (.Slice lo hi st p) pos) (.ol (pickP xs l u d)) := .mk fun A kk fk tmp s Q E R S H => by
 refine Subscript_ (h.run A kk fk tmp s _ E R S fun v s1 S1 => wpAny_Slice (hl.run A kk fk _ s1 _ E R S1 fun vl s2 e2 S2 => hu.run A kk fk _ s2 _ E R S2 fun vu s3 e3 S3 => hd.run A kk fk _ s3 _ E R S3 fun vd s4 e4 S4 => ?_))
 refine x40 S4 fun kp m own tow D => ?_; clear S4
 refine x12 D.top fun tow' _ hp D' => ?_
 refine x32 hp.lst_inv' fun a vs n z1 hk hr => ?_; subst z1
 have hL : s4.heap.IsList a vs := ⟨_, D.kept _ _ hk, rfl, n, rfl⟩
 have hlen := hr.length
 simp at hlen
 subst e2 e3 e4
 refine tail_any (hL.push _).typeIs list_getitem_lookup (wpAny_getItem_list_slice (hL.push _) (Heap.IsSliceOf.new ..) partIs partIs partIs h0 ?_ (by omega)) (hs _ _)
 have G := D'.grow (h' := s4.heap.push { cls := .type "slice", data := .fields #[partValue vl, partValue vu, partValue vd] }) (tk := s4.toks) fun b o e => Heap.get?_push_of_some _ e
 have hr' : Rps kp (pickP xs (vl.map (·.1)) (vu.map (·.1)) (vd.map (·.1))) (slicePick vs (vl.map (·.1)) (vu.map (·.1)) (vd.map (·.1))).toList := by
  unfold pickP slicePick
  rw [hlen]
  have := hr.pick (sliceRange (sliceBounds (vl.map (·.1)) (vu.map (·.1)) (vd.map (·.1)) xs.length).1 (sliceBounds (vl.map (·.1)) (vu.map (·.1)) (vd.map (·.1)) xs.length).2.1 (sliceBounds (vl.map (·.1)) (vu.map (·.1)) (vd.map (·.1)) xs.length).2.2)
  simpa using this
 have M : Sim C kk fk env ρ ((.many _, .many _) :: tmp) { s4 with heap := s4.heap.push { cls := .type "slice", data := .fields #[partValue vl, partValue vu, partValue vd] } } := ⟨kp, m, own, [] :: tow', { G with tmps := .cons (.many hr') G.tmps, free := fun x h => G.free x (by simpa using h), apartT := fun x y h e => G.apartT x y h (by simpa using e), towN := by simpa using G.towN }⟩
 have N := M.newList s4.toks
 exact H _ _ (by simpa using N)
end
section
variable {C : Cx} {k : Nat}
theorem callTop {A : Around} {a : Addr} {fd : FuncData} {body : List Stmt} {names : List Str} {ps : List PV} {vs : List Value} {s : Shared} {l : Loc} {Q : Value → Shared → Prop} {E : Value → Shared → Prop} (F : IsDef C a fd names body) (R : Rm A (k + 1))
 (hz : ∃ h tk, s = { C.z with heap := h, toks := tk }) (hbase : ∀ a o, C.h₀.get? a = some o → s.heap.get? a = some o) (hb : bindArgs fd ⟨vs, []⟩ = pure (names.zip vs)) (hps : Rps (fun b => s.heap.get? b) ps vs) (hn : names.length = ps.length)
 (h : ∀ L, ∃ ρ', Exs C k (callEnvC fd L a) (bindR (names.zip ps) fun _ => none) body (.ret l) ρ')
 (H : ∀ v s' kp ow, (∃ h tk, s' = { C.z with heap := h, toks := tk }) → (∀ b o, s.heap.get? b = some o → s'.heap.get? b = some o) → RpL C kp s'.heap l (.one v) ow → Q v s') : wpAny (model C.prog C.w) A (call (.ref a) vs) Q E s := by
 refine x11 F.get fun o ho hd => ?_
 refine wpAny_call (codeAny_call_cells (by have := R.depth; omega) (hbase _ _ ho) hd (C.lim.keeps hbase) (F.code.keeps hbase) F.body hb F.clo ?_ ?_ F.coro F.gen F.kind)
 · intro x hx
   obtain ⟨n, v⟩ := x
   have hm : n ∈ names := (List.of_mem_zip hx).1
   exact (F.nms n hm).imp id fun hc => ⟨hc, F.cells _ n hm hc⟩
 · intro s₁ x
   obtain ⟨ρ', hbd⟩ := h s.heap.objs.size
   have keep : ∀ b o, s.heap.get? b = some o → s₁.heap.get? b = some o := x.toInCall.keep
   have dead : ∀ b, s.heap.objs.size ≤ b → s.heap.get? b = none := fun b hb => by
    cases e : s.heap.get? b with
    | none => rfl
    | some o => exact absurd (Heap.lt_size e) (Nat.not_lt.mpr hb)
   have hv := bindR_ok (kp := fun b => s.heap.get? b) (callEnvC fd s.heap.objs.size a).kindOf names ps vs (fun _ => none) (fun _ => none) (fun _ => none) hps hn F.nms (fun x l e => by exact no e)
   have S : Sim C (fun b => s.heap.get? b) (fun _ => none) (callEnvC fd s.heap.objs.size a) (bindR (names.zip ps) fun _ => none) [] s₁ := by
    refine ⟨fun b => s.heap.get? b, _, fun _ => [], [], {
     rest := by refine x20 hz fun h t e => ?_; clear hz; refine x20 x.toInCall.same fun h2 t2 e2 => ?_; exact ⟨h2, t2, by rw [e2, e]⟩
     base := hbase
     le := fun _ _ e => e
     kept := keep
     fkept := fun b o e => by exact no e
     kf := fun b o e => by exact no e
     ns := x.toInCall.ns
     nl := dead _ (Nat.le_refl _)
     vars := fun y l e => ?_
     noVar := fun _ _ => rfl
     tmps := .nil
     free := fun b h => by simp at h
     apart := fun _ _ _ h => by simp at h
     apartT := fun _ _ h => by simp at h
     towN := by simp
     cells := fun y c e => ⟨⟨_, x.cell y c e⟩, Nat.ne_of_gt (x.above y c (mem_of_lookup e))⟩
     wcell := ⟨fun y c e _ => dead c (Nat.le_of_lt (x.above y c (mem_of_lookup e))), fun y z c e1 _ e2 => name_of_addr x.apart (mem_of_lookup e1) (mem_of_lookup e2)⟩
     globals := F.globals
     builtins := F.builtins
     kind := F.kind }⟩
    refine x22 (hv y l e) fun p v z1 hp hv => ?_; subst z1
    refine ⟨v, ?_, .fr hp⟩
    rcases hv with ⟨h1, h2⟩ | ⟨h1, h2⟩
    · exact .inl ⟨h1, h2⟩
    · refine .inr ⟨h1, ?_⟩
      have hy : y ∈ names := by
       apply Classical.byContradiction
       intro hy
       have : ∀ (ns : List Str) (vs : List Value) (cm : Str → Option Value), y ∉ ns → cm y = none → bindC (callEnvC fd s.heap.objs.size a).kindOf (ns.zip vs) cm y = none := by
        intro ns
        induction ns with
        | nil => intro vs cm _ h; simpa [bindC] using h
        | cons n ns ih =>
         intro vs cm hy h
         cases vs with
         | nil => simpa [bindC] using h
         | cons v vs =>
          simp only [List.zip_cons_cons, bindC]
          refine ih vs _ (fun hm => hy (List.mem_cons_of_mem _ hm)) ?_
          have : y ≠ n := fun q => hy (q ▸ List.mem_cons_self)
          split <;> simp [h, this]
       rw [this names vs _ hy rfl] at h2
       cases h2
      obtain ⟨c, hc⟩ := Option.isSome_iff_exists.mp (F.cells _ y hy h1)
      exact ⟨c, hc, h2 ▸ x.cell y c hc⟩
   refine hbd.run _ _ _ [] s₁ _ _ (R.deeper _) ⟨rfl, fun y c e hlt => rfl⟩ S fun v s' S' => ?_
   refine x40 S' fun kp m own tow D => ?_; clear S'
   refine x22 D.tmps.inv fun _ _ z1 r0 r1 => ?_; subst z1
   exact H v s' kp _ D.rest (fun b o e => D.kept _ _ (D.le _ _ e)) r0
end
section
variable {C : Cx} {k : Nat} {kk fk : PH} {env : Env} {ρ ρ' ρ1 ρ2 : Rho} {tmp tmp' : List (Loc × LV)} {s s' : Shared} {K : Frag} {Kc : Addr}
open Classical in
end
section
variable {P : Program} {w : World}
end
section
variable {C : Cx} {k : Nat} {kk fk : PH} {env : Env} {ρ ρ' ρ1 ρ2 : Rho} {tmp tmp' : List (Loc × LV)} {s s' : Shared} {K : Frag} {Kc : Addr}
end
end Mine
namespace Mine
open PySem PySem.Calls PyProof.Rows PySem.W PySem.SeqAt
section
variable {C : Cx} {k : Nat} {kk fk : PH} {env : Env} {ρ ρ' ρ1 ρ2 : Rho} {tmp tmp' : List (Loc × LV)} {s s' : Shared} {p q : PV} {d e : PyData} {b : Bool}
end
end Mine
namespace Mine
open PySem PySem.Calls PyProof.Rows PySem.W
section
variable {C : Cx} {k : Nat} {kk fk : PH} {env : Env} {ρ : Rho} {tmp : List (Loc × LV)} {s : Shared}
end
section
variable {C : Cx} {k : Nat} {kk fk : PH} {env : Env} {ρ ρ' ρ1 ρ2 : Rho} {tmp tmp' : List (Loc × LV)} {s s' : Shared} {K : Frag} {Kc : Addr}
end
section
variable {C : Cx} {k : Nat} {kk fk : PH} {env : Env} {ρ ρ' ρ1 ρ2 : Rho} {tmp tmp' : List (Loc × LV)} {s s' : Shared} {K : Frag} {Kc : Addr}
end
end Mine
namespace Mine
open PySem PySem.Calls PyProof.Rows PySem.W
section
variable {C : Cx} {k : Nat} {kk fk : PH} {env : Env} {ρ ρ' ρ1 ρ2 : Rho} {tmp tmp' : List (Loc × LV)} {s s' : Shared}
end
section
variable {C : Cx} {k : Nat} {kk fk : PH} {env : Env} {ρ ρ' ρ1 ρ2 : Rho} {tmp tmp' : List (Loc × LV)} {s s' : Shared}
end
end Mine
namespace Mine
open PySem PySem.Calls PyProof.Rows PySem.SeqAt
section
variable {C : Cx} {k : Nat} {kk fk : PH} {env : Env} {ρ ρ' ρ1 ρ2 : Rho} {tmp : List (Loc × LV)} {s : Shared}
end
end Mine
namespace Mine
open PySem PySem.W PySem.Calls PyProof.Rows
noncomputable def bigs (den : Code → Sem Fin) (st : Setting) (hint : Code → Option Obj) : Nat → (∀ α : Type, Ctx → Sem α → Pos → SharedT → Option (Except Value α × Pos × SharedT)) × (Ctx → Pos → SharedT → Option (Result × SharedT))
 | 0 => (fun _ _ _ _ _ => none, fun _ _ _ => none)
 | n + 1 =>
  (fun α Γ t p s => match t with
   | .pure a => some (.ok a, p, s)
   | .raise e => some (.error e, p, s)
   | .rule _ k => (bigs den st hint n).1 α Γ (k ()) p s
   | .at p' k => (bigs den st hint n).1 α Γ (k ()) p' s
   | .load a _ k => match Nat.blt a s.n with
    | true => match s.tree.get a with
     | some o => match alive o with
      | some o' => (bigs den st hint n).1 α Γ (k o') p s
      | none => none
     | none => none
    | false => none
   | .update a _ f k => match Nat.blt a s.n with
    | true => match s.tree.get a with
     | some o => match alive o with
      | some _ => (bigs den st hint n).1 α Γ (k ()) p ⟨s.tree.set a f, s.n, s.life, s.gens, s.drawn, s.toks, s.os⟩
      | none => none
     | none => none
    | false => none
   | .alloc o k => match ((s.tree.ins s.n o).get s.n).isSome with
    | true => (bigs den st hint n).1 α Γ (k s.n) p ⟨s.tree.ins s.n o, s.n + 1, s.life, s.gens, s.drawn, s.toks, s.os⟩
    | false => none
   | .loadIfAlive a k => match Nat.blt a s.n with
    | true => match s.tree.get a with
     | some o => (bigs den st hint n).1 α Γ (k (alive o)) p s
     | none => none
    | false => (bigs den st hint n).1 α Γ (k none) p s
   | .point _ k => (bigs den st hint n).1 α Γ (k ()) p s
   | .fresh k => (bigs den st hint n).1 α Γ (k s.toks) p ⟨s.tree, s.n, s.life, s.gens, s.drawn, s.toks + 1, s.os⟩
   | .ask k => (bigs den st hint n).1 α Γ (k st) p s
   | .call c h _ _ k => match hint c with
    | some o => match ((s.tree.ins s.n o).get s.n).isSome with
     | true => (bigs den st hint n).1 α Γ (k (.ok (.ret (.ref s.n)))) p ⟨s.tree.ins s.n o, s.n + 1, s.life, s.gens, s.drawn, s.toks, s.os⟩
     | false => none
    | none => match (bigs den st hint n).2 (Γ.enter c h p) p s with
     | some (r, s') => (bigs den st hint n).1 α Γ (k r) p s'
     | none => none
   | .handled own k => (bigs den st hint n).1 α Γ (k (if own then Γ.own else Γ.handled)) p s
   | .stack k => (bigs den st hint n).1 α Γ (k ((Γ.code, p) :: Γ.below)) p s
   | .thread k => (bigs den st hint n).1 α Γ (k 0) p s
   | _ => none,
   fun Γ p s => match (bigs den st hint n).1 Fin Γ (den Γ.code) p s with
    | some (.ok (.done f), _, s') => some (.ok f, s')
    | some (.ok (.again c), p', s') => match c.quiet with
     | true => (bigs den st hint n).2 (Γ.goto c) p' s'
     | false => none
    | some (.error e, _, s') => some (.error e, s')
    | none => none)
def endsIn {α : Type} (Q : α → Pos → Shared → Prop) (E : Value → Pos → Shared → Prop) : Except Value α → Pos → Shared → Prop
 | .ok a, p, s => Q a p s
 | .error e, p, s => E e p s
def HintOk (M : Model) (hint : Code → Option Obj) : Prop := ∀ c o, hint c = some o → ∀ (Γ : Ctx) (p : Pos) (s : Shared), Γ.code = c → Returns M Γ p s (.ok (.ret (.ref s.heap.objs.size))) { s with heap := s.heap.push o }
theorem bigs_sound (M : Model) {hint : Code → Option Obj} (hh : HintOk M hint) : ∀ n, (∀ (α : Type) (Γ : Ctx) (t : Sem α) (p : Pos) (s : SharedT) (r : Except Value α) (p' : Pos) (s' : SharedT),
 (bigs M.den ⟨M.prog, M.w.params⟩ hint n).1 α Γ t p s = some (r, p', s') → ∀ (Q : α → Pos → Shared → Prop) (E : Value → Pos → Shared → Prop), endsIn Q E r p' s'.abs → Sem.wp M Γ t Q E p s.abs) ∧
 (∀ (Γ : Ctx) (p : Pos) (s : SharedT) (r : Result) (s' : SharedT), (bigs M.den ⟨M.prog, M.w.params⟩ hint n).2 Γ p s = some (r, s') → Returns M Γ p s.abs r s'.abs)
 | 0 => by
  refine ⟨?_, ?_⟩
  · intro _ _ _ _ _ r p' s' h
    cases (show (none : Option (Except Value _ × Pos × SharedT)) = some (r, p', s') from h)
  · intro _ _ _ r s' h
    cases (show (none : Option (Result × SharedT)) = some (r, s') from h)
 | n + 1 => by
  obtain ⟨ih1, ih2⟩ := bigs_sound M hh n
  constructor
  · intro α Γ t p s r p' s' h Q E hr
    cases t with
    | pure a => cases (show some (Except.ok a, p, s) = some (r, p', s') from h); exact hr
    | raise e => cases (show some (Except.error e, p, s) = some (r, p', s') from h); exact hr
    | rule tag k => exact ih1 _ _ _ _ _ _ _ _ h Q E hr
    | «at» q k => exact ih1 _ _ _ _ _ _ _ _ h Q E hr
    | load a q k =>
     replace h : (match Nat.blt a s.n with | true => (match s.tree.get a with | some o => (match alive o with | some o' => (bigs M.den ⟨M.prog, M.w.params⟩ hint n).1 α Γ (k o') p s | none => none) | none => none) | false => none) = some (r, p', s') := h
     cases e : Nat.blt a s.n with
     | false => simp [e] at h
     | true =>
      cases g : s.tree.get a with
      | none => simp [e, g] at h
      | some o =>
       cases al : alive o with
       | none => simp [e, g, al] at h
       | some o' =>
        simp only [e, g, al] at h
        simp only [Sem.wp]
        exact ⟨o', by show (absHeap s.tree s.n s.life).get? a = _; rw [abs_get (Nat.le_of_ble_eq_true e) g, al], ih1 _ _ _ _ _ _ _ _ h Q E hr⟩
    | update a q f k =>
     replace h : (match Nat.blt a s.n with | true => (match s.tree.get a with | some o => (match alive o with | some _ => (bigs M.den ⟨M.prog, M.w.params⟩ hint n).1 α Γ (k ()) p ⟨s.tree.set a f, s.n, s.life, s.gens, s.drawn, s.toks, s.os⟩ | none => none) | none => none) | false => none) = some (r, p', s') := h
     cases e : Nat.blt a s.n with
     | false => simp [e] at h
     | true =>
      cases g : s.tree.get a with
      | none => simp [e, g] at h
      | some o =>
       cases al : alive o with
       | none => simp [e, g, al] at h
       | some o' =>
        simp only [e, g, al] at h
        simp only [Sem.wp]
        refine ⟨by show ((absHeap s.tree s.n s.life).get? a).isSome = true; rw [abs_get (Nat.le_of_ble_eq_true e) g, al]; rfl, ?_⟩
        have := ih1 _ _ _ _ _ _ _ _ h Q E hr
        have e2 : ({ s.abs with heap := s.abs.heap.update a f } : Shared) = SharedT.abs ⟨s.tree.set a f, s.n, s.life, s.gens, s.drawn, s.toks, s.os⟩ := by
         show Shared.mk ((absHeap s.tree s.n s.life).update a f) _ _ _ _ = Shared.mk (absHeap (s.tree.set a f) s.n s.life) _ _ _ _
         rw [absHeap_set g]; rfl
        rw [e2]; exact this
    | alloc o k =>
     replace h : (match ((s.tree.ins s.n o).get s.n).isSome with | true => (bigs M.den ⟨M.prog, M.w.params⟩ hint n).1 α Γ (k s.n) p ⟨s.tree.ins s.n o, s.n + 1, s.life, s.gens, s.drawn, s.toks, s.os⟩ | false => none) = some (r, p', s') := h
     cases e : ((s.tree.ins s.n o).get s.n).isSome with
     | false => simp [e] at h
     | true =>
      simp only [e] at h
      simp only [Sem.wp]
      have := ih1 _ _ _ _ _ _ _ _ h Q E hr
      have e1 : s.abs.heap.objs.size = s.n := absHeap_size ..
      have e2 : ({ s.abs with heap := s.abs.heap.push o } : Shared) = SharedT.abs ⟨s.tree.ins s.n o, s.n + 1, s.life, s.gens, s.drawn, s.toks, s.os⟩ := by
       show Shared.mk ((absHeap s.tree s.n s.life).push o) _ _ _ _ = Shared.mk (absHeap (s.tree.ins s.n o) (s.n + 1) s.life) _ _ _ _
       rw [absHeap_ins e]; rfl
      rw [e1, e2]; exact this
    | loadIfAlive a k =>
     replace h : (match Nat.blt a s.n with | true => (match s.tree.get a with | some o => (bigs M.den ⟨M.prog, M.w.params⟩ hint n).1 α Γ (k (alive o)) p s | none => none) | false => (bigs M.den ⟨M.prog, M.w.params⟩ hint n).1 α Γ (k none) p s) = some (r, p', s') := h
     cases e : Nat.blt a s.n with
     | false =>
      simp only [e] at h
      simp only [Sem.wp]
      have lt : ¬ a < s.n := fun q => by rw [show Nat.blt a s.n = true from Nat.ble_eq_true_of_le q] at e; cases e
      have : s.abs.heap.get? a = none := abs_get_none lt
      rw [this]
      exact ih1 _ _ _ _ _ _ _ _ h Q E hr
     | true =>
      cases g : s.tree.get a with
      | none => simp [e, g] at h
      | some o =>
       simp only [e, g] at h
       simp only [Sem.wp]
       have : s.abs.heap.get? a = alive o := abs_get (Nat.le_of_ble_eq_true e) g
       rw [this]
       exact ih1 _ _ _ _ _ _ _ _ h Q E hr
    | point l k => exact ih1 _ _ _ _ _ _ _ _ h Q E hr
    | fresh k => exact ih1 _ _ _ _ _ _ _ _ h Q E hr
    | ask k => exact ih1 _ _ _ _ _ _ _ _ h Q E hr
    | call c hd g l k =>
     replace h : (match hint c with | some o => (match ((s.tree.ins s.n o).get s.n).isSome with | true => (bigs M.den ⟨M.prog, M.w.params⟩ hint n).1 α Γ (k (.ok (.ret (.ref s.n)))) p ⟨s.tree.ins s.n o, s.n + 1, s.life, s.gens, s.drawn, s.toks, s.os⟩ | false => none) | none => (match (bigs M.den ⟨M.prog, M.w.params⟩ hint n).2 (Γ.enter c hd p) p s with | some (r1, s1) => (bigs M.den ⟨M.prog, M.w.params⟩ hint n).1 α Γ (k r1) p s1 | none => none)) = some (r, p', s') := h
     cases e0 : hint c with
     | some o =>
      simp only [e0] at h
      cases e : ((s.tree.ins s.n o).get s.n).isSome with
      | false => simp [e] at h
      | true =>
       simp only [e] at h
       simp only [Sem.wp]
       have := ih1 _ _ _ _ _ _ _ _ h Q E hr
       have e1 : s.abs.heap.objs.size = s.n := absHeap_size ..
       have e2 : ({ s.abs with heap := s.abs.heap.push o } : Shared) = SharedT.abs ⟨s.tree.ins s.n o, s.n + 1, s.life, s.gens, s.drawn, s.toks, s.os⟩ := by
        show Shared.mk ((absHeap s.tree s.n s.life).push o) _ _ _ _ = Shared.mk (absHeap (s.tree.ins s.n o) (s.n + 1) s.life) _ _ _ _
        rw [absHeap_ins e]; rfl
       refine ⟨_, _, hh c o e0 (Γ.enter c hd p) p s.abs rfl, ?_⟩
       rw [e1, e2]; exact this
     | none =>
      simp only [e0] at h
      cases e : (bigs M.den ⟨M.prog, M.w.params⟩ hint n).2 (Γ.enter c hd p) p s with
      | none => simp [e] at h
      | some x =>
       obtain ⟨r1, s1⟩ := x
       simp only [e] at h
       simp only [Sem.wp]
       exact ⟨r1, s1.abs, ih2 _ _ _ _ _ e, ih1 _ _ _ _ _ _ _ _ h Q E hr⟩
    | handled own k => exact ih1 _ _ _ _ _ _ _ _ h Q E hr
    | stack k => exact ih1 _ _ _ _ _ _ _ _ h Q E hr
    | thread k => exact ih1 _ _ _ _ _ _ _ _ h Q E hr
    | _ => cases (show (none : Option (Except Value α × Pos × SharedT)) = some (r, p', s') from h)
  · intro Γ p s r s' h
    replace h : (match (bigs M.den ⟨M.prog, M.w.params⟩ hint n).1 Fin Γ (M.den Γ.code) p s with | some (.ok (.done f), _, s1) => some ((.ok f : Result), s1) | some (.ok (.again c), p1, s1) => (match c.quiet with | true => (bigs M.den ⟨M.prog, M.w.params⟩ hint n).2 (Γ.goto c) p1 s1 | false => none) | some (.error e, _, s1) => some ((.error e : Result), s1) | none => none) = some (r, s') := h
    cases e : (bigs M.den ⟨M.prog, M.w.params⟩ hint n).1 Fin Γ (M.den Γ.code) p s with
    | none => simp [e] at h
    | some x =>
     obtain ⟨r1, p1, s1⟩ := x
     have key : ∀ R : Result → Shared → Prop, endsIn (Sem.finPost M Γ R) (fun e _ s' => R (.error e) s') r1 p1 s1.abs → ∃ r s', Runs M Γ p (M.den Γ.code) [] s.abs (.ret r) s' ∧ R r s' := fun R hR =>
      (Sem.wp_iff_runs M Γ (M.den Γ.code) R p s.abs).mp (ih1 _ _ _ _ _ _ _ _ e _ _ hR)
     cases r1 with
     | error x =>
      simp only [e, Option.some.injEq, Prod.mk.injEq] at h
      obtain ⟨rfl, rfl⟩ := h
      refine x22 (key (fun r s' => r = .error x ∧ s' = s1.abs) ⟨rfl, rfl⟩) fun r2 s2 hr z1 z2 => ?_; subst z1; subst z2
      exact hr
     | ok fin =>
      cases fin with
      | done f =>
       simp only [e, Option.some.injEq, Prod.mk.injEq] at h
       obtain ⟨rfl, rfl⟩ := h
       refine x22 (key (fun r s' => r = .ok f ∧ s' = s1.abs) ⟨rfl, rfl⟩) fun r2 s2 hr z1 z2 => ?_; subst z1; subst z2
       exact hr
      | again c =>
       cases hq : c.quiet with
       | false => simp [e, hq] at h
       | true =>
        simp only [e, hq] at h
        have := ih2 _ _ _ _ _ h
        refine x22 (key (fun r2 s2 => r2 = r ∧ s2 = s'.abs) ⟨hq, _, _, this, rfl, rfl⟩) fun r2 s2 hr z1 z2 => ?_; subst z1; subst z2
        exact hr
noncomputable def noHint : Code → Option Obj := fun _ => none
noncomputable def hintF : Value → Option String
 | .builtin t => some t
 | _ => none
noncomputable def hintV : Value → Option String
 | .type t => some t
 | _ => none
theorem hintF_of {v : Value} {t : String} (h : hintF v = some t) : v = .builtin t := by
 cases v with
 | builtin => obtain rfl := si h; rfl
 | _ => exact nomatch h
theorem hintV_of {v : Value} {t : String} (h : hintV v = some t) : v = .type t := by
 cases v with
 | type => obtain rfl := si h; rfl
 | _ => exact nomatch h
noncomputable def listHint : Code → Option Obj
 | .call f a => if hintF f = some "list.__new__" ∧ a.pos.head?.bind hintV = some "list" ∧ a.pos.length = 2 ∧ a.kw.length = 0 then some { cls := .type "list", data := .seq #[] } else none
 | _ => none
theorem noHint_ok (M : Model) : HintOk M noHint := fun c o h => by exact no h
theorem listHint_ok (p : Program) (w : World) : HintOk (model p w) listHint := fun c o h Γ q s hc => by
 cases c with
 | call f a =>
  by_cases hq : hintF f = some "list.__new__" ∧ a.pos.head?.bind hintV = some "list" ∧ a.pos.length = 2 ∧ a.kw.length = 0
  · obtain rfl : _ = o := Option.some.inj ((if_pos hq).symm.trans h)
    obtain ⟨as, kw⟩ := a
    refine x03 hq fun h1 h2 h3 h4 => ?_; clear hq
    obtain rfl := hintF_of h1
    obtain rfl := List.length_eq_zero_iff.mp h4
    cases as with
    | nil => cases h3
    | cons v as => ?_
    obtain rfl := hintV_of h2
    cases as with
    | nil => cases h3
    | cons a as => ?_
    obtain rfl := List.length_eq_zero_iff.mp (Nat.succ.inj (Nat.succ.inj h3))
    have hb : Γ.Below ⟨Γ.handled, frameCount Γ.below, none, none, unitsOf Γ.below⟩ := by
     refine ⟨rfl, Nat.le_refl _, ?_, ?_, Nat.le_refl _⟩ <;> (intro l e; exact nomatch e)
    refine x21 (code_list_new (prog := p) (w := w) (E := fun _ _ => False) (s := s) a (Q₁ := fun v s' => v = .ref s.heap.objs.size ∧ s' = { s with heap := s.heap.push { cls := .type "list", data := .seq #[] } }) ⟨rfl, rfl⟩ Γ q hc hb) fun r s' hr h2 => ?_
    cases r with
    | error e => exact h2.elim
    | ok fl =>
     cases fl with
     | ret v => obtain ⟨rfl, rfl⟩ := h2; exact hr
     | _ => exact h2.elim
  · exact nomatch ((if_neg hq).symm.trans h)
 | _ => exact nomatch h
@[irreducible] noncomputable def bigH (hint : Code → Option Obj) (p : Program) (w : World) (n : Nat) {α : Type} (Γ : Ctx) (t : Sem α) (q : Pos) (s : SharedT) : Option (Except Value α × Pos × SharedT) := (bigs (denote treeTable) ⟨p, w.params⟩ hint n).1 α Γ t q s
noncomputable abbrev big (p : Program) (w : World) (n : Nat) {α : Type} (Γ : Ctx) (t : Sem α) (q : Pos) (s : SharedT) : Option (Except Value α × Pos × SharedT) := bigH noHint p w n Γ t q s
theorem wp_of_bigH {hint : Code → Option Obj} {p : Program} {w : World} (hh : HintOk (model p w) hint) {n : Nat} {α : Type} {Γ : Ctx} {t : Sem α} {q q' : Pos} {s s' : SharedT} {r : Except Value α} (h : bigH hint p w n Γ t q s = some (r, q', s')) {Q : α → Pos → Shared → Prop} {E : Value → Pos → Shared → Prop}
 (hr : endsIn Q E r q' s'.abs) : Sem.wp (model p w) Γ t Q E q s.abs := by
 unfold bigH at h
 have hh' : HintOk ⟨denote treeTable, p, w⟩ hint := by rw [← table_eq_tree]; exact hh
 have := (bigs_sound ⟨denote treeTable, p, w⟩ hh' n).1 α Γ t q s r q' s' h Q E hr
 rw [← table_eq_tree] at this
 exact this
theorem wp_of_big {p : Program} {w : World} {n : Nat} {α : Type} {Γ : Ctx} {t : Sem α} {q q' : Pos} {s s' : SharedT} {r : Except Value α} (h : big p w n Γ t q s = some (r, q', s')) {Q : α → Pos → Shared → Prop} {E : Value → Pos → Shared → Prop}
 (hr : endsIn Q E r q' s'.abs) : Sem.wp (model p w) Γ t Q E q s.abs := wp_of_bigH (noHint_ok _) h hr
noncomputable def impRunT (tb : String → Option Builtin) (p : Program) (w : World) : Nat → SharedT → Thread → Option SharedT
 | 0, _, _ => none
 | n + 1, s, t => match t.atExitBegin with
  | some [] => some s
  | some (_ :: _) => none
  | none => match stepT (denote tb) p w s t with
   | some (s', t') => impRunT tb p w n s' t'
   | none => none
theorem impRun_of {tb : String → Option Builtin} {p : Program} {w : World} : ∀ {n : Nat} {s s' : SharedT} {t : Thread}, impRunT tb p w n s t = some s' → importEnds tb p w n s.abs t = some s'.abs
 | 0, _, _, _, h => by exact no h
 | n + 1, s, s', t, h => by
  unfold impRunT at h
  unfold importEnds
  cases he : t.atExitBegin with
  | some x =>
   rw [he] at h
   cases x with
   | nil => obtain rfl := si h; rfl
   | cons a b => exact no h
  | none =>
   rw [he] at h
   cases hs : stepT (denote tb) p w s t with
   | none => rw [hs] at h; exact no h
   | some r => obtain ⟨s₂, t₂⟩ := r; rw [hs] at h; dsimp only; rw [stepT_spec hs]; exact impRun_of h
noncomputable def hx (h : Heap) (l : List Obj) : Heap := { h with objs := h.objs ++ l.toArray }
noncomputable def dobj (es : List DictEntry) (ep : Nat) : Obj := ⟨.type "dict", none, .dict es.toArray ep, #[]⟩
theorem hx_push (h : Heap) (l : List Obj) (o : Obj) : (hx h l).push o = hx h (l ++ [o]) := by
 show Heap.mk _ _ = Heap.mk _ _
 congr 1
 apply Array.ext'
 simp
theorem hx_size (h : Heap) (l : List Obj) : (hx h l).objs.size = h.objs.size + l.length := by simp [hx]
theorem hx_at' (h : Heap) (l : List Obj) (i : Nat) : (h.objs ++ l.toArray)[h.objs.size + i]? = l[i]? := by
 rw [Array.getElem?_append, if_neg (by omega), Nat.add_sub_cancel_left, List.getElem?_toArray]
theorem hx_at (h : Heap) (l : List Obj) (i : Nat) : (hx h l).objs[h.objs.size + i]? = l[i]? := hx_at' h l i
theorem hx_get {h : Heap} {l : List Obj} {i : Nat} {o : Obj} (e : l[i]? = some o) (hf : o.isFreed = false) : (hx h l).get? (h.objs.size + i) = some o := by
 unfold Heap.get?
 rw [hx_at, e]
 obtain ⟨c, d, dt, sl⟩ := o
 cases dt <;> first | rfl | exact tf hf
theorem hx_update (h : Heap) (l : List Obj) (i : Nat) (f : Obj → Obj) : (hx h l).update (h.objs.size + i) f = hx h (l.modify i f) := by
 show Heap.mk _ _ = Heap.mk _ _
 congr 1
 apply Array.ext_getElem?
 intro j
 rw [Array.getElem?_modify]
 by_cases hj : j < h.objs.size
 · have ne : h.objs.size + i ≠ j := by omega
   rw [if_neg ne, Array.getElem?_append, if_pos hj, Array.getElem?_append, if_pos hj]
 · obtain ⟨k, rfl⟩ : ∃ k, j = h.objs.size + k := ⟨j - h.objs.size, by omega⟩
   rw [hx_at', hx_at', List.getElem?_modify]
   by_cases hk : i = k
   · subst hk; simp
   · rw [if_neg (by omega)]; simp [hk]
section
variable {prog : Program} {w : World} {A : Around} {E : Value → Shared → Prop} {s : Shared}
theorem mapKeys_dobj (es : List DictEntry) (ep : Nat) (e : DictEntry) : Obj.mapDictKeys (·.push e) (dobj es ep) = dobj (es ++ [e]) (ep + 1) := by
 simp [dobj, Obj.mapDictKeys]
theorem findIdx_none {es : List DictEntry} {k : Int} (hn : ∀ e ∈ es, Value.isInt k e.key = false) : (es.toArray.findIdx? fun e => Value.isInt k e.key) = none :=
 Array.findIdx?_eq_none_iff.mpr fun e he => by simp [hn e (by simpa using he)]
theorem dictSetHashed_x {h : Heap} {l : List Obj} {i : Nat} {es : List DictEntry} {ep : Nat} {k : Int} {t : Tok} {v : Value} {tk : Nat} {g : Array GenState} {dr : Drawn} {os : OsState} {Q : Unit → Shared → Prop} (hi : l[i]? = some (dobj es ep)) (hk : IntKeys es.toArray)
 (hn : ∀ e ∈ es, Value.isInt k e.key = false) (hz : es.length ≤ sizeLine) (H : Q () ⟨hx h (l.set i (dobj (es ++ [⟨hashInt k, .int k t, v⟩]) (ep + 1))), g, dr, tk, os⟩) :
 wpAny (model prog w) A (dictSetHashed (h.objs.size + i) (.int k t) (hashInt k) v) Q E ⟨hx h l, g, dr, tk, os⟩ := by
 have ho : (hx h l).get? (h.objs.size + i) = some (dobj es ep) := hx_get hi rfl
 unfold dictSetHashed
 refine wpAny_holding ?_
 refine wpAny_bind (wpAny_dictFind_int ho rfl hk ?_)
 rw [findIdx_none hn]
 refine wpAny_bind (wpAny_rule (wpAny_updateDictKeys (hz := by simpa using hz) ho rfl ?_))
 have e : (hx h l).update (h.objs.size + i) (Obj.mapDictKeys (·.push ⟨hashInt k, .int k t, v⟩)) = hx h (l.set i (dobj (es ++ [⟨hashInt k, .int k t, v⟩]) (ep + 1))) := by
  rw [hx_update]
  congr 1
  apply List.ext_getElem?
  intro j
  rw [List.getElem?_modify, List.getElem?_set]
  by_cases hj : i = j
  · subst hj
    have : i < l.length := by
     rcases Nat.lt_or_ge i l.length with q | q
     · exact q
     · rw [List.getElem?_eq_none q] at hi; exact no hi
    rw [if_pos rfl, hi]
    simp [this, mapKeys_dobj]
  · simp [hj]
 show Q () ⟨(hx h l).update (h.objs.size + i) (Obj.mapDictKeys (·.push ⟨hashInt k, .int k t, v⟩)), _, _, _, _⟩
 rw [e]; exact H
theorem dictSet_x {h : Heap} {l : List Obj} {i : Nat} {es : List DictEntry} {ep : Nat} {k : Int} {t : Tok} {v : Value} {tk : Nat} {g : Array GenState} {dr : Drawn} {os : OsState} {Q : Unit → Shared → Prop} (hi : l[i]? = some (dobj es ep)) (hk : IntKeys es.toArray)
 (hn : ∀ e ∈ es, Value.isInt k e.key = false) (hz : es.length ≤ sizeLine) (H : Q () ⟨hx h (l.set i (dobj (es ++ [⟨hashInt k, .int k t, v⟩]) (ep + 1))), g, dr, tk + 1, os⟩) :
 wpAny (model prog w) A (dictSet (h.objs.size + i) (.int k t) v) Q E ⟨hx h l, g, dr, tk, os⟩ := by
 unfold dictSet
 refine wpAny_holding ?_
 exact wpAny_bind (wpAny_pyHash_int (dictSetHashed_x hi hk hn hz H))
theorem dictPut_x {h : Heap} {l : List Obj} {i : Nat} {es : List DictEntry} {ep : Nat} {k : Int} {t : Tok} {v : Value} {tk : Nat} {g : Array GenState} {dr : Drawn} {os : OsState} {Q : Unit → Shared → Prop} (hi : l[i]? = some (dobj es ep)) (hk : IntKeys es.toArray)
 (hn : ∀ e ∈ es, Value.isInt k e.key = false) (hz : es.length ≤ sizeLine) (H : Q () ⟨hx h (l.set i (dobj (es ++ [⟨hashInt k, .int k t, v⟩]) (ep + 1))), g, dr, tk, os⟩) :
 wpAny (model prog w) A (dictPut (h.objs.size + i) (hashInt k) (.int k t) v) Q E ⟨hx h l, g, dr, tk, os⟩ := by
 have ho : (hx h l).get? (h.objs.size + i) = some (dobj es ep) := hx_get hi rfl
 unfold dictPut
 refine wpAny_bind (wpAny_dictFind_int ho rfl hk ?_)
 rw [findIdx_none hn]
 refine wpAny_updateDictKeys (hz := by simpa using hz) ho rfl ?_
 have e : (hx h l).update (h.objs.size + i) (Obj.mapDictKeys (·.push ⟨hashInt k, .int k t, v⟩)) = hx h (l.set i (dobj (es ++ [⟨hashInt k, .int k t, v⟩]) (ep + 1))) := by
  rw [hx_update]
  congr 1
  apply List.ext_getElem?
  intro j
  rw [List.getElem?_modify, List.getElem?_set]
  by_cases hj : i = j
  · subst hj
    have : i < l.length := by
     rcases Nat.lt_or_ge i l.length with q | q
     · exact q
     · rw [List.getElem?_eq_none q] at hi; exact no hi
    rw [if_pos rfl, hi]
    simp [this, mapKeys_dobj]
  · simp [hj]
 show Q () ⟨(hx h l).update (h.objs.size + i) (Obj.mapDictKeys (·.push ⟨hashInt k, .int k t, v⟩)), _, _, _, _⟩
 rw [e]; exact H
noncomputable def entL : List (Int × Str) → Nat → List DictEntry
 | [], _ => []
 | (k, x) :: r, t => ⟨hashInt k, .int k t, .str x (t + 1)⟩ :: entL r (t + 3)
noncomputable def entS : List (Int × Str) → Nat → List DictEntry
 | [], _ => []
 | (k, x) :: r, t => ⟨hashInt k, .int k t, .str x (t + 1)⟩ :: entS r (t + 2)
theorem noO {α : Type} {P : Prop} {a : α} (h : (none : Option α) = some a) : P := nomatch h
noncomputable def litK : Option Expr → Option Int
 | some (.Constant (.int k) _ _) => some k
 | _ => none
noncomputable def litV : Expr → Option Str
 | .Constant (.str x) _ _ => some x
 | _ => none
noncomputable def litsOf : List (Option Expr) → List Expr → Option (List (Int × Str))
 | [], vs => if vs.isEmpty then some [] else none
 | e :: ks, vs => (litK e).bind fun k => (vs.head?.bind litV).bind fun x => (litsOf ks vs.tail).map ((k, x) :: ·)
theorem litK_of {e : Option Expr} {k : Int} (h : litK e = some k) : ∃ n p, e = some (.Constant (.int k) n p) := by
 cases e with
 | none => exact noO h
 | some e =>
  cases e with
  | Constant c n p => cases c with
   | int i => obtain rfl := si h; exact ⟨n, p, rfl⟩
   | _ => exact noO h
  | _ => exact noO h
theorem litV_of {e : Expr} {x : Str} (h : litV e = some x) : ∃ n p, e = .Constant (.str x) n p := by
 cases e with
 | Constant c n p => cases c with
  | str i => obtain rfl := si h; exact ⟨n, p, rfl⟩
  | _ => exact noO h
 | _ => exact noO h
inductive LitP (env : Env) (pos : Pos) : List (Sem Value × Sem Value) → List (Int × Str) → Prop
 | nil : LitP env pos [] []
 | cons {k : Int} {x : Str} {n m : Nat} {p q : Pos} {ps : List (Sem Value × Sem Value)} {L : List (Int × Str)} (h : LitP env pos ps L) : LitP env pos ((eval (.Constant (.int k) n p) env, do let v ← eval (.Constant (.str x) m q) env; standAt pos; pure v) :: ps) ((k, x) :: L)
theorem litP_of {env : Env} {pos : Pos} {ks : List (Option Expr)} {vs : List Expr} {L : List (Int × Str)} : litsOf ks vs = some L → LitP env pos (pairTrees ks vs env pos) L := by
 induction ks generalizing vs L with
 | nil =>
  intro h
  cases vs with
  | nil => obtain rfl := si h; exact .nil
  | cons => exact noO h
 | cons e ks ih =>
  intro h
  cases vs with
  | nil => refine x11 (Option.bind_eq_some_iff.mp h) fun k hk h => ?_; exact noO h
  | cons v vs =>
   refine x11 (Option.bind_eq_some_iff.mp h) fun k hk h => ?_
   refine x11 (Option.bind_eq_some_iff.mp h) fun x hx h => ?_
   refine x11 (Option.map_eq_some_iff.mp h) fun L' h1 z1 => ?_; subst z1
   refine x20 (litK_of hk) fun n p z1 => ?_; subst z1
   refine x20 (litV_of hx) fun m q z1 => ?_; subst z1
   exact .cons (ih h1)
theorem LitP.length {env : Env} {pos : Pos} : ∀ {ps : List (Sem Value × Sem Value)} {L : List (Int × Str)}, LitP env pos ps L → ps.length = L.length := by
 intro ps L x
 induction x with
 | nil => rfl
 | cons h ih => exact congrArg Nat.succ ih
theorem isInt_ne {k k' : Int} {t : Tok} (h : k' ≠ k) : Value.isInt k (.int k' t) = false := by simp [Value.isInt, h]
theorem entL_keys : ∀ (L : List (Int × Str)) (t : Nat) (e : DictEntry), e ∈ entL L t → ∃ k u, (∃ x, (k, x) ∈ L) ∧ e.key = .int k u ∧ e.hash = hashInt k
 | [], _, e, h => by simp [entL] at h
 | (k, x) :: r, t, e, h => by
  simp only [entL, List.mem_cons] at h
  rcases h with rfl | h
  · exact ⟨k, t, ⟨x, List.mem_cons_self⟩, rfl, rfl⟩
  · refine x21 (entL_keys r _ e h) fun k' u z1 h2 => ?_; obtain ⟨x', hx⟩ := z1
    exact ⟨k', u, ⟨x', List.mem_cons_of_mem _ hx⟩, h2⟩
theorem entS_keys : ∀ (L : List (Int × Str)) (t : Nat) (e : DictEntry), e ∈ entS L t → ∃ k u, (∃ x, (k, x) ∈ L) ∧ e.key = .int k u ∧ e.hash = hashInt k
 | [], _, e, h => by simp [entS] at h
 | (k, x) :: r, t, e, h => by
  simp only [entS, List.mem_cons] at h
  rcases h with rfl | h
  · exact ⟨k, t, ⟨x, List.mem_cons_self⟩, rfl, rfl⟩
  · refine x21 (entS_keys r _ e h) fun k' u z1 h2 => ?_; obtain ⟨x', hx⟩ := z1
    exact ⟨k', u, ⟨x', List.mem_cons_of_mem _ hx⟩, h2⟩
def Free (es : List DictEntry) (ks : List Int) : Prop := IntKeys es.toArray ∧ ∀ k ∈ ks, ∀ e ∈ es, Value.isInt k e.key = false
theorem Free.push {es : List DictEntry} {k : Int} {ks : List Int} (F : Free es (k :: ks)) (hk : k ∉ ks) (t : Tok) (v : Value) : Free (es ++ [⟨hashInt k, .int k t, v⟩]) ks := by
 refine ⟨fun e he => ?_, fun j hj e he => ?_⟩
 · simp only [List.mem_toArray, List.mem_append, List.mem_singleton] at he
   rcases he with he | rfl
   · exact F.1 e (by simpa using he)
   · exact ⟨k, t, rfl, rfl⟩
 · simp only [List.mem_append, List.mem_singleton] at he
   rcases he with he | rfl
   · exact F.2 j (List.mem_cons_of_mem _ hj) e he
   · exact isInt_ne (fun q => hk (q ▸ hj))
theorem set_set (l : List Obj) (i : Nat) (a b : Obj) : (l.set i a).set i b = l.set i b := by simp
theorem set_at {l : List Obj} {i : Nat} {o : Obj} (h : l[i]? = some o) (p : Obj) : (l.set i p)[i]? = some p := by
 have : i < l.length := by
  rcases Nat.lt_or_ge i l.length with q | q
  · exact q
  · rw [List.getElem?_eq_none q] at h; exact no h
 simp [this]
section
variable {g : Array GenState} {dr : Drawn} {os : OsState} {env : Env} {pos : Pos}
theorem longLoop {h : Heap} {i : Nat} {Q : PUnit → Shared → Prop} : ∀ (ps : List (Sem Value × Sem Value)) (L : List (Int × Str)) (l : List Obj) (es : List DictEntry) (ep tk : Nat), LitP env pos ps L → l[i]? = some (dobj es ep) → (L.map (·.1)).Nodup →
 Free es (L.map (·.1)) → es.length + L.length ≤ sizeLine → Q ⟨⟩ ⟨hx h (l.set i (dobj (es ++ entL L tk) (ep + L.length))), g, dr, tk + 3 * L.length, os⟩ →
 wpAny (model prog w) A (forIn ps PUnit.unit fun (x : Sem Value × Sem Value) (_ : PUnit) => (do let kv ← x.1; let vv ← holding [kv] x.2; holding [kv, vv] (dictSet (h.objs.size + i) kv vv); pure (ForInStep.yield PUnit.unit) : Sem (ForInStep PUnit))) Q E ⟨hx h l, g, dr, tk, os⟩
 := by
  intro ps L l es ep tk x
  induction x generalizing l es ep tk with
  | nil =>
   intro hi hn F hz H
   rw [List.forIn_nil]
   have e : l.set i (dobj (es ++ []) (ep + 0)) = l := by
    apply List.ext_getElem?
    intro j
    rw [List.getElem?_set]
    by_cases hj : i = j
    · subst hj
      have : i < l.length := by
       rcases Nat.lt_or_ge i l.length with q | q
       · exact q
       · rw [List.getElem?_eq_none q] at hi; exact no hi
      simp [this, ← hi]
    · simp [hj]
   simp only [entL, List.length_nil, e] at H
   exact wpAny_pure H
  | @cons k x n m p q ps L hp ih =>
   intro hi hn F hz H
   rw [List.forIn_cons]
   simp only [List.map_cons, List.nodup_cons] at hn
   simp only [List.map_cons] at F
   refine wpAny_bind (wpAny_bind (wpAny_Constant_int (env := env) (k := n) (pos := p) ?_))
   refine wpAny_bind (wpAny_holding (wpAny_bind (wpAny_Constant_str (env := env) (k := m) (pos := q) (wpAny_bind (wpAny_standAt (wpAny_pure ?_))))))
   refine wpAny_bind (wpAny_holding (dictSet_x hi F.1 (F.2 k List.mem_cons_self) (by simp at hz; omega) (wpAny_pure ?_)))
   refine ih _ _ _ _ (set_at hi _) hn.2 (F.push hn.1 _ _) (by simp at hz ⊢; omega) ?_
   have e1 : tk + 1 + 1 + 1 = tk + 3 := rfl
   have e2 : tk + 3 + 3 * L.length = tk + 3 * ((k, x) :: L).length := by simp; omega
   rw [set_set, e1, e2]
   simp only [entL, List.length_cons, List.append_assoc, List.singleton_append] at H ⊢
   rw [show ep + 1 + L.length = ep + (L.length + 1) by omega]
   exact H
theorem subLong {h : Heap} {l : List Obj} {ps : List (Sem Value × Sem Value)} {L : List (Int × Str)} {tk : Nat} {Q : Addr → Shared → Prop} (hp : LitP env pos ps L) (hL : 15 < L.length) (hn : (L.map (·.1)).Nodup) (hz : L.length ≤ sizeLine)
 (H : Q (h.objs.size + l.length) ⟨hx h (l ++ [dobj (entL L tk) L.length]), g, dr, tk + 3 * L.length, os⟩) : wpAny (model prog w) A (subDict ps) Q E ⟨hx h l, g, dr, tk, os⟩ := by
 unfold subDict
 refine wpAny_bind (wpAny_alloc ?_)
 dsimp only
 rw [hx_size, hx_push]
 refine wpAny_bind (wpAny_holding ?_)
 rw [if_neg (by rw [hp.length]; omega)]
 refine wpAny_bind (wpAny_rule (wpAny_bind ?_))
 refine longLoop (i := l.length) ps L (l ++ [dobj [] 0]) [] 0 tk hp (by simp) hn ⟨fun e he => by simp at he, fun k _ e he => by simp at he⟩ (by simpa using hz) ?_
 refine wpAny_pure (wpAny_pure ?_)
 have e : (l ++ [dobj [] 0]).set l.length (dobj ([] ++ entL L tk) (0 + L.length)) = l ++ [dobj (entL L tk) L.length] := by simp
 rw [e]
 exact H
noncomputable def valS : List (Int × Str) → Nat → List (Value × Value)
 | [], _ => []
 | (k, x) :: r, t => (.int k t, .str x (t + 1)) :: valS r (t + 2)
theorem evalShort {h : Heap} : ∀ (ps : List (Sem Value × Sem Value)) (L : List (Int × Str)) (tk : Nat) (Q : List (Value × Value) → Shared → Prop), LitP env pos ps L →
 Q (valS L tk) ⟨h, g, dr, tk + 2 * L.length, os⟩ → wpAny (model prog w) A (evalPairs ps) Q E ⟨h, g, dr, tk, os⟩
 := by
  intro ps L tk Q x
  induction x generalizing tk Q with
  | nil => exact fun H => evalPairs_nil H
  | @cons k x n m p q ps L hp ih =>
   intro H
   refine evalPairs_cons (wpAny_Constant_int (env := env) (k := n) (pos := p) (wpAny_bind (wpAny_Constant_str (env := env) (k := m) (pos := q) (wpAny_bind (wpAny_standAt (wpAny_pure ?_))))))
   refine ih _ _ ?_
   have e : tk + 1 + 1 + 2 * L.length = tk + 2 * ((k, x) :: L).length := by simp; omega
   rw [e]
   exact H
theorem storeShort {h : Heap} {i : Nat} {Q : PUnit → Shared → Prop} : ∀ (L : List (Int × Str)) (t : Nat) (l : List Obj) (es : List DictEntry) (ep tk : Nat), l[i]? = some (dobj es ep) → (L.map (·.1)).Nodup →
 Free es (L.map (·.1)) → es.length + L.length ≤ sizeLine → Q ⟨⟩ ⟨hx h (l.set i (dobj (es ++ entS L t) (ep + L.length))), g, dr, tk + L.length, os⟩ →
 wpAny (model prog w) A (forIn (valS L t) PUnit.unit fun (x : Value × Value) (_ : PUnit) => (do dictSet (h.objs.size + i) x.1 x.2; pure (ForInStep.yield PUnit.unit) : Sem (ForInStep PUnit))) Q E ⟨hx h l, g, dr, tk, os⟩
 | [], t, l, es, ep, tk, hi, hn, F, hz, H => by
  rw [valS, List.forIn_nil]
  have e : l.set i (dobj (es ++ []) (ep + 0)) = l := by
   apply List.ext_getElem?
   intro j
   rw [List.getElem?_set]
   by_cases hj : i = j
   · subst hj
     have : i < l.length := by
      rcases Nat.lt_or_ge i l.length with q | q
      · exact q
      · rw [List.getElem?_eq_none q] at hi; exact no hi
     simp [this, ← hi]
   · simp [hj]
  simp only [entS, List.length_nil, e] at H
  exact wpAny_pure H
 | (k, x) :: L, t, l, es, ep, tk, hi, hn, F, hz, H => by
  rw [valS, List.forIn_cons]
  simp only [List.map_cons, List.nodup_cons] at hn
  simp only [List.map_cons] at F
  refine wpAny_bind (wpAny_bind (dictSet_x hi F.1 (F.2 k List.mem_cons_self) (by simp at hz; omega) (wpAny_pure ?_)))
  refine storeShort L (t + 2) _ _ _ _ (set_at hi _) hn.2 (F.push hn.1 _ _) (by simp at hz ⊢; omega) ?_
  rw [set_set]
  simp only [entS, List.length_cons, List.append_assoc, List.singleton_append] at H ⊢
  rw [show ep + 1 + L.length = ep + (L.length + 1) by omega, show tk + 1 + L.length = tk + (L.length + 1) by omega]
  exact H
theorem subShort {h : Heap} {l : List Obj} {ps : List (Sem Value × Sem Value)} {L : List (Int × Str)} {tk : Nat} {Q : Addr → Shared → Prop} (hp : LitP env pos ps L) (hL : L.length ≤ 15) (hn : (L.map (·.1)).Nodup)
 (H : Q (h.objs.size + l.length) ⟨hx h (l ++ [dobj (entS L tk) L.length]), g, dr, tk + 3 * L.length, os⟩) : wpAny (model prog w) A (subDict ps) Q E ⟨hx h l, g, dr, tk, os⟩ := by
 unfold subDict
 refine wpAny_bind (wpAny_alloc ?_)
 dsimp only
 rw [hx_size, hx_push]
 refine wpAny_bind (wpAny_holding ?_)
 rw [if_pos (by rw [hp.length]; exact hL)]
 refine wpAny_bind (evalShort ps L tk _ hp ?_)
 refine wpAny_holding (wpAny_bind ?_)
 refine storeShort (i := l.length) L tk (l ++ [dobj [] 0]) [] 0 _ (by simp) hn ⟨fun e he => by simp at he, fun k _ e he => by simp at he⟩ (by rw [sizeLine_eq]; simp; omega) ?_
 refine wpAny_pure (wpAny_pure ?_)
 have e : (l ++ [dobj [] 0]).set l.length (dobj ([] ++ entS L tk) (0 + L.length)) = l ++ [dobj (entS L tk) L.length] := by simp
 rw [e, show tk + 2 * L.length + L.length = tk + 3 * L.length by omega]
 exact H
noncomputable def keyOf (e : DictEntry) : Int := match e.key with
 | .int k _ => k
 | _ => 0
theorem range_drop_succ {n i : Nat} (h : i < n) : (List.range n).drop i = i :: (List.range n).drop (i + 1) := by
 rw [List.drop_eq_getElem_cons (by simpa using h)]
 simp
theorem Free.push' {es : List DictEntry} {e : DictEntry} {ks : List Int} (F : Free es (keyOf e :: ks)) (he : ∃ k t, e.key = .int k t ∧ e.hash = hashInt k) (hk : keyOf e ∉ ks) : Free (es ++ [e]) ks := by
 refine x21 he fun k t h1 h2 => ?_; clear he
 obtain ⟨hh, ky, vl⟩ := e
 simp only at h1 h2
 subst h1 h2
 exact F.push hk t vl
theorem mergeX {h : Heap} {l : List Obj} {i j : Nat} {es F : List DictEntry} {ep epF tk : Nat} {Q : PUnit → Shared → Prop} (hi : l[i]? = some (dobj es ep)) (hj : l[j]? = some (dobj F epF)) (hij : i ≠ j) (hsm : (h.objs.size + j == sysModules) = false)
 (hne : es ≠ []) (hF : IntKeys F.toArray) (hn : (F.map keyOf).Nodup) (hfree : Free es (F.map keyOf)) (hz : es.length + F.length ≤ sizeLine)
 (H : Q ⟨⟩ ⟨hx h (l.set i (dobj (es ++ F) (ep + F.length))), g, dr, tk, os⟩) : wpAny (model prog w) A (mergeMapping (h.objs.size + i) (.ref (h.objs.size + j)) false) Q E ⟨hx h l, g, dr, tk, os⟩ := by
 have hoi : (hx h l).get? (h.objs.size + i) = some (dobj es ep) := hx_get hi rfl
 have hoj : (hx h l).get? (h.objs.size + j) = some (dobj F epF) := hx_get hj rfl
 have hT : Shared.TypeIs ⟨hx h l, g, dr, tk, os⟩ (.ref (h.objs.size + j)) "dict" := ⟨_, hoj, rfl⟩
 unfold mergeMapping
 refine wpAny_bind (wpAny_isInstance hT isSubtype_dict_dict ?_)
 rw [if_pos rfl]
 refine wpAny_bind (wpAny_specialOf hT PySem.F.slot_dict_iter.lookup (wpAny_bind (wpAny_pure ?_)))
 dsimp only
 rw [show ((some (Value.builtin "dict.__iter__") == some (Value.builtin "dict.__iter__")) = true) from by decide +kernel]
 dsimp only
 rw [hsm]
 simp only [Bool.false_eq_true, if_false]
 refine wpAny_bind (wpAny_dictEntries hoi rfl ?_)
 have hemp : es.toArray.isEmpty = false := by cases es with | nil => exact absurd rfl hne | cons a b => simp
 rw [hemp]
 simp only [Bool.false_eq_true, if_false]
 refine wpAny_bind (wpAny_dictEntries hoj rfl (wpAny_bind (wpAny_dictEpoch hoj rfl ?_)))
 refine wpAny_bind ?_
 refine wpAny_forIn_list _
  (fun rest _ s' => ∃ m, m ≤ F.length ∧ rest = (List.range F.length).drop m ∧ s' = ⟨hx h (l.set i (dobj (es ++ F.take m) (ep + m))), g, dr, tk, os⟩ ∧ Free (es ++ F.take m) ((F.drop m).map keyOf))
  _ ?_ ?_ _ _ ⟨0, Nat.zero_le _, by simp, ?_, by simpa using hfree⟩
 · rintro x rest b s' ⟨m, hm, hr, rfl, hfr⟩
   have hlt : m < F.length := by
    rcases Nat.lt_or_ge m F.length with q | q
    · exact q
    · rw [List.drop_eq_nil_of_le (by simpa using q)] at hr; cases hr
   rw [range_drop_succ hlt] at hr
   obtain ⟨rfl, rfl⟩ : x = m ∧ rest = (List.range F.length).drop (m + 1) := by injection hr with a b; exact ⟨a, b⟩
   have hi' : (l.set i (dobj (es ++ F.take x) (ep + x)))[i]? = some (dobj (es ++ F.take x) (ep + x)) := set_at hi _
   have hj' : (l.set i (dobj (es ++ F.take x) (ep + x)))[j]? = some (dobj F epF) := by rw [List.getElem?_set_ne hij]; exact hj
   have hoj' : (hx h (l.set i (dobj (es ++ F.take x) (ep + x)))).get? (h.objs.size + j) = some (dobj F epF) := hx_get hj' rfl
   refine wpAny_bind (wpAny_dictEntries hoj' rfl ?_)
   have hFx : F.toArray[x]? = some F[x] := by simp [hlt]
   rw [hFx]
   dsimp only
   refine x21 (hF F[x] (by simp)) fun k t h1 h2 => ?_
   have hdrop : F.drop x = F[x] :: F.drop (x + 1) := List.drop_eq_getElem_cons hlt
   rw [hdrop, List.map_cons] at hfr
   have hkey : keyOf F[x] = k := by simp [keyOf, h1]
   refine wpAny_bind (wpAny_holding ?_)
   rw [h1, h2]
   have hnk : k ∉ (F.drop (x + 1)).map keyOf := by
    have : (F.drop x).map keyOf |>.Nodup := by
     have e : F.map keyOf = (F.take x).map keyOf ++ (F.drop x).map keyOf := by rw [← List.map_append, List.take_append_drop]
     rw [e] at hn
     exact (List.nodup_append.mp hn).2.1
    rw [hdrop, List.map_cons, List.nodup_cons, hkey] at this
    exact this.1
   refine dictPut_x (i := i) hi' hfr.1 (fun e he => hfr.2 k (by rw [hkey]; exact List.mem_cons_self) e he) (by simp; omega) ?_
   have hlast : (⟨hashInt k, .int k t, F[x].val⟩ : DictEntry) = F[x] := by
    cases hfx : F[x] with
    | mk a b c => rw [hfx] at h1 h2; simp only at h1 h2; rw [h1, h2]
   rw [hlast, set_set]
   have htake : es ++ F.take x ++ [F[x]] = es ++ F.take (x + 1) := by rw [List.append_assoc, List.take_append_getElem hlt]
   rw [htake]
   have hj2 : (l.set i (dobj (es ++ F.take (x + 1)) (ep + x + 1)))[j]? = some (dobj F epF) := by rw [List.getElem?_set_ne hij]; exact hj
   have hoj2 : (hx h (l.set i (dobj (es ++ F.take (x + 1)) (ep + x + 1)))).get? (h.objs.size + j) = some (dobj F epF) := hx_get hj2 rfl
   refine wpAny_bind (wpAny_dictEpoch hoj2 rfl ?_)
   rw [show (epF != epF) = false by simp]
   simp only [Bool.false_eq_true, if_false]
   refine wpAny_pure ⟨x + 1, hlt, rfl, rfl, ?_⟩
   rw [← htake]
   exact hfr.push' ⟨k, t, h1, h2⟩ (by rw [hkey]; exact hnk)
 · rintro b s' ⟨m, hm, hr, rfl, hfr⟩
   have : m = F.length := by
    have e := congrArg List.length hr
    simp at e
    omega
   subst this
   rw [List.take_length] 
   exact wpAny_pure H
 · have e : l.set i (dobj (es ++ F.take 0) (ep + 0)) = l := by
    apply List.ext_getElem?
    intro q
    rw [List.getElem?_set]
    by_cases hq : i = q
    · subst hq
      have : i < l.length := by
       rcases Nat.lt_or_ge i l.length with q | q
       · exact q
       · rw [List.getElem?_eq_none q] at hi; exact no hi
      simp [this, ← hi]
    · simp [hq]
   rw [e]
theorem gatherTo (f : (Option (Sem Value) × Sem Value) → (Option Addr × List (Sem Value × Sem Value)) → Sem (ForInStep (Option Addr × List (Sem Value × Sem Value)))) (main : Option Addr)
 (hf : ∀ (p : Sem Value × Sem Value) (run : List (Sem Value × Sem Value)), run.length + 1 < 17 → f (some p.1, p.2) (main, run) = pure (.yield (main, run ++ [p]))) (rest : List (Option (Sem Value) × Sem Value)) :
 ∀ (ps run : List (Sem Value × Sem Value)), run.length + ps.length < 17 → forIn (ps.map (fun p => (some p.1, p.2)) ++ rest) (main, run) f = forIn rest (main, run ++ ps) f
 | [], run, _ => by simp
 | p :: ps, run, h => by
  rw [List.map_cons, List.cons_append, List.forIn_cons, hf p run (by simp at h; omega), pure_bind]
  have := gatherTo f main hf rest ps (run ++ [p]) (by simp at h ⊢; omega)
  simpa using this
theorem LitP.app_inv {env : Env} {pos : Pos} : ∀ {n : Nat} {ps : List (Sem Value × Sem Value)} {L : List (Int × Str)}, LitP env pos ps L → LitP env pos (ps.take n) (L.take n) ∧ LitP env pos (ps.drop n) (L.drop n)
 | 0, _, _, h => by simpa using ⟨LitP.nil, h⟩
 | n + 1, _, _, .nil => ⟨.nil, .nil⟩
 | n + 1, _, _, @LitP.cons _ _ k x a b p q ps L hp => by
  obtain ⟨h1, h2⟩ := hp.app_inv (n := n)
  exact ⟨.cons h1, by simpa using h2⟩
noncomputable def longE : Nat → List (Int × Str) → Nat → List DictEntry
 | 0, _, _ => []
 | n + 1, L, t => entL (L.take 17) t ++ longE n (L.drop 17) (t + 51)
noncomputable def longS : Nat → List (Int × Str) → Nat → List Obj
 | 0, _, _ => []
 | n + 1, L, t => dobj (entL (L.take 17) t) 17 :: longS n (L.drop 17) (t + 51)
theorem entL_keyOf : ∀ (L : List (Int × Str)) (t : Nat), (entL L t).map keyOf = L.map (·.1)
 | [], _ => rfl
 | (k, x) :: r, t => by simp [entL, keyOf, entL_keyOf r]
theorem entS_keyOf : ∀ (L : List (Int × Str)) (t : Nat), (entS L t).map keyOf = L.map (·.1)
 | [], _ => rfl
 | (k, x) :: r, t => by simp [entS, keyOf, entS_keyOf r]
theorem entL_length : ∀ (L : List (Int × Str)) (t : Nat), (entL L t).length = L.length
 | [], _ => rfl
 | (k, x) :: r, t => by simp [entL, entL_length r]
theorem entS_length : ∀ (L : List (Int × Str)) (t : Nat), (entS L t).length = L.length
 | [], _ => rfl
 | (k, x) :: r, t => by simp [entS, entS_length r]
theorem entL_int (L : List (Int × Str)) (t : Nat) : IntKeys (entL L t).toArray := fun e he => let ⟨k, u, _, h1, h2⟩ := entL_keys L t e (by simpa using he); ⟨k, u, h1, h2⟩
theorem entS_int (L : List (Int × Str)) (t : Nat) : IntKeys (entS L t).toArray := fun e he => let ⟨k, u, _, h1, h2⟩ := entS_keys L t e (by simpa using he); ⟨k, u, h1, h2⟩
theorem Free.mono {es : List DictEntry} {ks js : List Int} (F : Free es ks) (h : ∀ j ∈ js, j ∈ ks) : Free es js := ⟨F.1, fun j hj => F.2 j (h j hj)⟩
theorem Free.append {es F : List DictEntry} {ks : List Int} (h1 : Free es ks) (hF : IntKeys F.toArray) (h2 : ∀ k ∈ ks, k ∉ F.map keyOf) : Free (es ++ F) ks := by
 refine ⟨fun e he => ?_, fun k hk e he => ?_⟩
 · simp only [List.mem_toArray, List.mem_append] at he
   exact he.elim (fun q => h1.1 e (by simpa using q)) (fun q => hF e (by simpa using q))
 · rcases List.mem_append.mp he with q | q
   · exact h1.2 k hk e q
   · refine x21 (hF e (by simpa using q)) fun k' t e1 e2 => ?_
     rw [e1]
     refine isInt_ne fun z => h2 k hk ?_
     subst z
     exact List.mem_map.mpr ⟨e, q, by simp [keyOf, e1]⟩
section
variable {f : (Option (Sem Value) × Sem Value) → (Option Addr × List (Sem Value × Sem Value)) → Sem (ForInStep (Option Addr × List (Sem Value × Sem Value)))}
theorem displayLoop {h : Heap} (hbig : sysModules < h.objs.size) {Q : (Option Addr × List (Sem Value × Sem Value)) → Shared → Prop}
 (hA : ∀ (main : Option Addr) (p : Sem Value × Sem Value) (run : List (Sem Value × Sem Value)), run.length + 1 < 17 → f (some p.1, p.2) (main, run) = pure (.yield (main, run ++ [p])))
 (hC : ∀ (p : Sem Value × Sem Value) (d : Addr) (run : List (Sem Value × Sem Value)), run.length + 1 = 17 → ∀ (s : Shared) (R : ForInStep (Option Addr × List (Sem Value × Sem Value)) → Shared → Prop),
  wpAny (model prog w) A (subDict (run ++ [p])) (fun sub s₁ => ∀ E', wpAny (model prog w) A (mergeMapping d (.ref sub) false) (fun _ s' => R (.yield (some d, [])) s') E' s₁) E s → wpAny (model prog w) A (f (some p.1, p.2) (some d, run)) R E s) :
 ∀ (n : Nat) (L : List (Int × Str)) (ps : List (Sem Value × Sem Value)) (es : List DictEntry) (ep : Nat) (subs : List Obj) (tk : Nat), LitP env pos ps L → 17 * n ≤ L.length → L.length < 17 * n + 17 → (L.map (·.1)).Nodup → Free es (L.map (·.1)) → es ≠ [] → es.length + L.length ≤ sizeLine →
 (∀ ps', LitP env pos ps' (L.drop (17 * n)) → Q (some h.objs.size, ps') ⟨hx h (dobj (es ++ longE n L tk) (ep + 17 * n) :: (subs ++ longS n L tk)), g, dr, tk + 51 * n, os⟩) →
 wpAny (model prog w) A (forIn (ps.map fun p => (some p.1, p.2)) (some h.objs.size, []) f) Q E ⟨hx h (dobj es ep :: subs), g, dr, tk, os⟩
 | 0, L, ps, es, ep, subs, tk, hp, h1, h2, hn, F, hne, hz, H => by
  have := gatherTo f (some h.objs.size) (hA _) [] ps [] (by simp [hp.length]; omega)
  simp only [List.append_nil, List.nil_append] at this
  rw [this, List.forIn_nil]
  exact wpAny_pure (by simpa [longE, longS] using H ps (by simpa using hp))
 | n + 1, L, ps, es, ep, subs, tk, hp, h1, h2, hn, F, hne, hz, H => by
  have hlen := hp.length
  have h17 : 17 ≤ L.length := by omega
  obtain ⟨q1, q2⟩ := hp.app_inv (n := 17)
  have hs : ps = ps.take 16 ++ (ps[16]'(by omega) :: ps.drop 17) := by
   rw [← List.drop_eq_getElem_cons]
   exact (List.take_append_drop 16 ps).symm
  have ht : ps.take 17 = ps.take 16 ++ [ps[16]'(by omega)] := by rw [List.take_append_getElem (by omega)]
  have e1 : (ps.map fun p => ((some p.1, p.2) : Option (Sem Value) × Sem Value)) = (ps.take 16).map (fun p => (some p.1, p.2)) ++ ((some (ps[16]'(by omega)).1, (ps[16]'(by omega)).2) :: (ps.drop 17).map fun p => (some p.1, p.2)) := by
   have := congrArg (List.map fun p => ((some p.1, p.2) : Option (Sem Value) × Sem Value)) hs
   rw [this, List.map_append, List.map_cons]
  rw [e1, gatherTo f (some h.objs.size) (hA _) _ (ps.take 16) [] (by simp; omega), List.nil_append, List.forIn_cons]
  have hk : L.map (·.1) = (L.take 17).map (·.1) ++ (L.drop 17).map (·.1) := by rw [← List.map_append, List.take_append_drop]
  rw [hk] at hn F
  refine x02 (List.nodup_append.mp hn) fun n1 n2 n3 => ?_
  have l17 : (L.take 17).length = 17 := by simp; omega
  refine wpAny_bind (hC _ _ _ (by simp; omega) _ _ ?_)
  rw [← ht]
  refine subLong (pos := pos) (env := env) (l := dobj es ep :: subs) q1 (by omega) n1 (by rw [sizeLine_eq]; omega) fun E' => ?_
  rw [l17]
  refine mergeX (i := 0) (j := (dobj es ep :: subs).length) (es := es) (F := entL (L.take 17) tk) (ep := ep) (epF := 17) (by simp) (by simp) (by simp) (beq_eq_false_iff_ne.mpr fun e => absurd hbig (by rw [← e]; exact Nat.not_lt.mpr (Nat.le_add_right _ _))) hne (entL_int _ _) (by rw [entL_keyOf]; exact n1) (by rw [entL_keyOf]; exact F.mono fun j hj => List.mem_append_left _ hj) (by rw [entL_length, l17]; omega) ?_
  have e2 : ((dobj es ep :: subs) ++ [dobj (entL (L.take 17) tk) 17]).set 0 (dobj (es ++ entL (L.take 17) tk) (ep + (entL (L.take 17) tk).length)) = dobj (es ++ entL (L.take 17) tk) (ep + 17) :: (subs ++ [dobj (entL (L.take 17) tk) 17]) := by simp [entL_length, l17]
  rw [e2, show tk + 3 * 17 = tk + 51 by omega]
  dsimp only
  refine displayLoop hbig hA hC n (L.drop 17) (ps.drop 17) (es ++ entL (L.take 17) tk) (ep + 17) (subs ++ [dobj (entL (L.take 17) tk) 17]) (tk + 51) q2 (by rw [List.length_drop]; omega) (by rw [List.length_drop]; omega) n2 ?_ (by simp [hne]) (by rw [List.length_append, entL_length, l17, List.length_drop]; omega) fun ps' hps' => ?_
  · exact (F.mono fun j hj => List.mem_append_right _ hj).append (entL_int _ _) fun k hk hk' => by
     rw [entL_keyOf] at hk'
     exact n3 k hk' k hk rfl
  · have := H ps' (by rw [List.drop_drop] at hps'; rwa [show 17 * (n + 1) = 17 + 17 * n by omega])
    simp only [longE, longS] at this
    rw [show ep + 17 * (n + 1) = ep + 17 + 17 * n by omega, show tk + 51 * (n + 1) = tk + 51 + 51 * n by omega] at this
    simpa using this
end
theorem hx_nil (h : Heap) : hx h [] = h := by
 show Heap.mk _ _ = h
 cases h; simp
theorem longE_keyOf : ∀ (n : Nat) (L : List (Int × Str)) (t : Nat), (longE n L t).map keyOf = (L.take (17 * n)).map (·.1)
 | 0, L, t => by simp [longE]
 | n + 1, L, t => by
  rw [longE, List.map_append, entL_keyOf, longE_keyOf n, show 17 * (n + 1) = 17 + 17 * n by omega, List.take_add, List.map_append]
theorem longE_int : ∀ (n : Nat) (L : List (Int × Str)) (t : Nat), IntKeys (longE n L t).toArray
 | 0, L, t => fun e he => by simp [longE] at he
 | n + 1, L, t => fun e he => by
  simp only [longE, List.mem_toArray, List.mem_append] at he
  exact he.elim (fun q => entL_int _ _ e (by simpa using q)) (fun q => longE_int n _ _ e (by simpa using q))
theorem longE_length : ∀ (n : Nat) (L : List (Int × Str)) (t : Nat), (longE n L t).length = (L.take (17 * n)).length := fun n L t => by
 have := congrArg List.length (longE_keyOf n L t)
 simpa using this
theorem displayX {h : Heap} (hbig : sysModules < h.objs.size) {ps : List (Sem Value × Sem Value)} {L : List (Int × Str)} {n tk : Nat} {Q : Value → Shared → Prop} (hp : LitP env pos ps L) (hn : (L.map (·.1)).Nodup) (h1 : 17 * (n + 1) < L.length) (h2 : L.length ≤ 17 * (n + 1) + 15) (hz : L.length ≤ sizeLine)
 (H : Q (.ref h.objs.size) ⟨hx h (dobj (longE (n + 1) L tk ++ entS (L.drop (17 * (n + 1))) (tk + 51 * (n + 1))) L.length :: (longS n (L.drop 17) (tk + 51) ++ [dobj (entS (L.drop (17 * (n + 1))) (tk + 51 * (n + 1))) (L.length - 17 * (n + 1))])), g, dr, tk + 3 * L.length, os⟩) :
 wpAny (model prog w) A (dictDisplay (ps.map fun p => (some p.1, p.2))) Q E ⟨h, g, dr, tk, os⟩ := by
 unfold dictDisplay
 dsimp only
 refine wpAny_bind ?_
 have hlen := hp.length
 obtain ⟨q1, q2⟩ := hp.app_inv (n := 17)
 have hs : ps = ps.take 16 ++ (ps[16]'(by omega) :: ps.drop 17) := by
  rw [← List.drop_eq_getElem_cons]
  exact (List.take_append_drop 16 ps).symm
 have ht : ps.take 17 = ps.take 16 ++ [ps[16]'(by omega)] := by rw [List.take_append_getElem (by omega)]
 have e1 : (ps.map fun p => ((some p.1, p.2) : Option (Sem Value) × Sem Value)) = (ps.take 16).map (fun p => (some p.1, p.2)) ++ ((some (ps[16]'(by omega)).1, (ps[16]'(by omega)).2) :: (ps.drop 17).map fun p => (some p.1, p.2)) := by
  have := congrArg (List.map fun p => ((some p.1, p.2) : Option (Sem Value) × Sem Value)) hs
  rw [this, List.map_append, List.map_cons]
 have hk : L.map (·.1) = (L.take 17).map (·.1) ++ (L.drop 17).map (·.1) := by rw [← List.map_append, List.take_append_drop]
 rw [hk] at hn
 refine x02 (List.nodup_append.mp hn) fun n1 n2 n3 => ?_
 have l17 : (L.take 17).length = 17 := by simp; omega
 rw [e1, gatherTo _ none (fun p run h => by
  have hne : ((run ++ [(p.1, p.2)]).length == 17) = false := by simp; omega
  simp only [hne, Bool.false_eq_true, if_false]) _ (ps.take 16) [] (by simp; omega), List.nil_append, List.forIn_cons]
 have hl17 : ((ps.take 16 ++ [((ps[16]'(by omega)).1, (ps[16]'(by omega)).2)]).length == 17) = true := by simp; omega
 simp only [hl17, if_true]
 have hne0 : (ps.take 16 ++ [((ps[16]'(by omega)).1, (ps[16]'(by omega)).2)]).isEmpty = false := by simp
 simp only [hne0, Bool.false_eq_true, if_false]
 have ht' : ps.take 16 ++ [((ps[16]'(by omega)).1, (ps[16]'(by omega)).2)] = ps.take 17 := ht.symm
 rw [ht']
 refine wpAny_bind (wpAny_bind (wpAny_bind ?_))
 have hst : (⟨h, g, dr, tk, os⟩ : Shared) = ⟨hx h [], g, dr, tk, os⟩ := by rw [hx_nil]
 rw [hst]
 refine subLong (pos := pos) (env := env) (l := []) q1 (by omega) n1 (by rw [sizeLine_eq]; omega) (wpAny_pure (wpAny_pure ?_))
 rw [l17, show tk + 3 * 17 = tk + 51 by omega]
 dsimp only [List.nil_append, List.length_nil, Nat.add_zero]
 have F0 : Free (entL (L.take 17) tk) ((L.drop 17).map (·.1)) := by
  have := Free.append (es := []) (F := entL (L.take 17) tk) (ks := (L.drop 17).map (·.1)) ⟨fun e he => by simp at he, fun k _ e he => by simp at he⟩ (entL_int _ _) fun k hk hk' => by
   rw [entL_keyOf] at hk'
   exact n3 k hk' k hk rfl
  simpa using this
 refine displayLoop hbig (fun main p run hr => ?_) (fun p d run hr s R hR => ?_) n (L.drop 17) (ps.drop 17) (entL (L.take 17) tk) 17 [] (tk + 51) q2 (by rw [List.length_drop]; omega) (by rw [List.length_drop]; omega) n2 F0 ?_ (by rw [entL_length, l17, List.length_drop]; omega) fun ps' hps' => ?_
 · have hne : ((run ++ [(p.1, p.2)]).length == 17) = false := by simp; omega
   simp only [hne, Bool.false_eq_true, if_false]
 · have hne : ((run ++ [(p.1, p.2)]).length == 17) = true := by simp; omega
   have hne0 : (run ++ [(p.1, p.2)]).isEmpty = false := by simp
   simp only [hne, hne0, Bool.false_eq_true, if_true, if_false]
   exact wpAny_bind (wpAny_bind (wpAny_holding (wpAny_mono hR (fun sub s₁ h₁ => wpAny_bind (wpAny_onRaise (wpAny_holding (wpAny_mono (h₁ _) (fun _ s' h' => wpAny_pure (wpAny_pure h')) fun _ _ e => e)))) fun _ _ e => e)))
 · intro e0
   have := congrArg List.length e0
   rw [entL_length, l17] at this
   simp at this
 · have hl := hps'.length
   rw [List.length_drop, List.length_drop] at hl
   have hne1 : ps'.isEmpty = false := by cases ps' with | nil => simp at hl; omega | cons a b => rfl
   dsimp only
   rw [hne1]
   simp only [Bool.false_eq_true, if_false]
   rw [List.drop_drop] at hps'
   have hd : 17 + 17 * n = 17 * (n + 1) := by omega
   rw [hd] at hps'
   have hk2 : (L.drop 17).map (·.1) = ((L.drop 17).take (17 * n)).map (·.1) ++ (L.drop (17 * (n + 1))).map (·.1) := by
    rw [← hd, ← List.drop_drop, ← List.map_append, List.take_append_drop]
   have nl : ((L.drop (17 * (n + 1))).map (·.1)).Nodup := by rw [hk2] at n2; exact (List.nodup_append.mp n2).2.1
   refine wpAny_bind (wpAny_bind (wpAny_holding ?_))
   refine subShort (pos := pos) (env := env) hps' (by rw [List.length_drop]; omega) nl ?_
   refine wpAny_bind (wpAny_onRaise (wpAny_holding ?_))
   have hsplit : L.map (·.1) = (L.take (17 * (n + 1))).map (·.1) ++ (L.drop (17 * (n + 1))).map (·.1) := by rw [← List.map_append, List.take_append_drop]
   have hn' : (L.map (·.1)).Nodup := by rw [hk]; exact hn
   rw [hsplit] at hn'
   refine x02 (List.nodup_append.mp hn') fun m1 m2 m3 => ?_
   have hE : entL (L.take 17) tk ++ longE n (L.drop 17) (tk + 51) = longE (n + 1) L tk := rfl
   have htk : tk + 51 + 51 * n = tk + 51 * (n + 1) := by omega
   have hep : 17 + 17 * n = 17 * (n + 1) := by omega
   rw [hE, htk, hep]
   have F1 : Free (longE (n + 1) L tk) ((L.drop (17 * (n + 1))).map (·.1)) := by
    have := Free.append (es := []) (F := longE (n + 1) L tk) (ks := (L.drop (17 * (n + 1))).map (·.1)) ⟨fun e he => by simp at he, fun k _ e he => by simp at he⟩ (longE_int _ _ _) fun k hk1 hk2 => by
     rw [longE_keyOf] at hk2
     exact m3 k hk2 k hk1 rfl
    simpa using this
   have hEl : (longE (n + 1) L tk).length = 17 * (n + 1) := by rw [longE_length, List.length_take]; omega
   refine mergeX (i := 0) (j := (dobj (longE (n + 1) L tk) (17 * (n + 1)) :: ([] ++ longS n (L.drop 17) (tk + 51))).length) (es := longE (n + 1) L tk) (F := entS (L.drop (17 * (n + 1))) (tk + 51 * (n + 1))) (ep := 17 * (n + 1)) (epF := (L.drop (17 * (n + 1))).length) (by simp) (by simp) (by simp) (beq_eq_false_iff_ne.mpr fun e => absurd hbig (by rw [← e]; exact Nat.not_lt.mpr (Nat.le_add_right _ _))) (fun e0 => by rw [e0] at hEl; simp at hEl) (entS_int _ _) (by rw [entS_keyOf]; exact m2) (by rw [entS_keyOf]; exact F1) (by rw [entS_length, hEl, List.length_drop]; omega) ?_
   refine wpAny_pure (wpAny_pure ?_)
   have e3 : (dobj (longE (n + 1) L tk) (17 * (n + 1)) :: ([] ++ longS n (L.drop 17) (tk + 51)) ++ [dobj (entS (L.drop (17 * (n + 1))) (tk + 51 * (n + 1))) (L.drop (17 * (n + 1))).length]).set 0 (dobj (longE (n + 1) L tk ++ entS (L.drop (17 * (n + 1))) (tk + 51 * (n + 1))) (17 * (n + 1) + (entS (L.drop (17 * (n + 1))) (tk + 51 * (n + 1))).length)) = dobj (longE (n + 1) L tk ++ entS (L.drop (17 * (n + 1))) (tk + 51 * (n + 1))) L.length :: (longS n (L.drop 17) (tk + 51) ++ [dobj (entS (L.drop (17 * (n + 1))) (tk + 51 * (n + 1))) (L.length - 17 * (n + 1))]) := by
    rw [entS_length, List.length_drop, show 17 * (n + 1) + (L.length - 17 * (n + 1)) = L.length by omega]
    simp
   rw [e3, List.length_drop, show tk + 51 * (n + 1) + 3 * (L.length - 17 * (n + 1)) = tk + 3 * L.length by omega]
   exact H
end
end
noncomputable def incr : List Int → Bool
 | a :: b :: r => match decide (a < b) with
  | true => incr (b :: r)
  | false => false
 | _ => true
theorem incr_lt : ∀ (l : List Int) (a : Int), incr (a :: l) = true → ∀ b ∈ l, a < b
 | [], a, _, b, h => by cases h
 | c :: l, a, h, b, hb => by
  unfold incr at h
  cases hc : decide (a < c) with
  | false => rw [hc] at h; exact ft h
  | true =>
   rw [hc] at h
   have h1 : a < c := of_decide_eq_true hc
   rcases List.mem_cons.mp hb with rfl | hb
   · exact h1
   · exact Int.lt_trans h1 (incr_lt l c h b hb)
theorem incr_tail : ∀ (l : List Int) (a : Int), incr (a :: l) = true → incr l = true
 | [], _, _ => rfl
 | c :: l, a, h => by
  unfold incr at h
  cases hc : decide (a < c) with
  | false => rw [hc] at h; exact ft h
  | true => rw [hc] at h; exact h
theorem incr_nodup : ∀ (l : List Int), incr l = true → l.Nodup
 | [], _ => List.nodup_nil
 | a :: l, h => List.nodup_cons.mpr ⟨fun m => absurd (incr_lt l a h a m) (Int.lt_irrefl _), incr_nodup l (incr_tail l a h)⟩
noncomputable def insL : BT → Nat → List Obj → BT
 | t, _, [] => t
 | t, n, o :: r => insL (t.ins n o) (n + 1) r
noncomputable def insOk : BT → Nat → List Obj → Bool
 | _, _, [] => true
 | t, n, o :: r => match ((t.ins n o).get n).isSome with
  | true => insOk (t.ins n o) (n + 1) r
  | false => false
theorem hx_cons (h : Heap) (o : Obj) (r : List Obj) : hx h (o :: r) = hx (h.push o) r := by
 show Heap.mk _ _ = Heap.mk _ _
 congr 1
 apply Array.ext'
 simp [Heap.push]
theorem hx_tree {life : Life} : ∀ (l : List Obj) (t : BT) (n : Nat), insOk t n l = true → hx (absHeap t n life) l = absHeap (insL t n l) (n + l.length) life
 | [], t, n, _ => by rw [hx_nil]; rfl
 | o :: r, t, n, h => by
  unfold insOk at h
  cases e : ((t.ins n o).get n).isSome with
  | false => rw [e] at h; exact ft h
  | true =>
   rw [e] at h
   rw [hx_cons, ← absHeap_ins e, hx_tree r _ _ h]
   show absHeap (insL (t.ins n o) (n + 1) r) (n + 1 + r.length) life = absHeap (insL (t.ins n o) (n + 1) r) (n + (r.length + 1)) life
   rw [show n + 1 + r.length = n + (r.length + 1) by omega]
theorem evalDictX {prog : Program} {w : World} {A : Around} {E : Value → Shared → Prop} {env : Env} {g : Array GenState} {dr : Drawn} {os : OsState} {keys : List (Option Expr)} {values : List Expr} {pos : Pos} {h : Heap} (hbig : sysModules < h.objs.size) {L : List (Int × Str)} {n tk : Nat} {Q : Value → Shared → Prop}
 (hL : litsOf keys values = some L) (hall : keys.all (·.isSome) = true) (hsame : keys.length = values.length) (hn : (L.map (·.1)).Nodup) (h1 : 17 * (n + 1) < L.length) (h2 : L.length ≤ 17 * (n + 1) + 15) (hz : L.length ≤ sizeLine)
 (H : Q (.ref h.objs.size) ⟨hx h (dobj (longE (n + 1) L tk ++ entS (L.drop (17 * (n + 1))) (tk + 51 * (n + 1))) L.length :: (longS n (L.drop 17) (tk + 51) ++ [dobj (entS (L.drop (17 * (n + 1))) (tk + 51 * (n + 1))) (L.length - 17 * (n + 1))])), g, dr, tk + 3 * L.length, os⟩) :
 wpAny (model prog w) A (eval (.Dict keys values pos) env) Q E ⟨h, g, dr, tk, os⟩ := by
 rw [arm_eval_Dict, zip_pairTrees keys values env pos hall hsame]
 exact wpAny_bind (wpAny_standAt (displayX hbig (litP_of hL) hn h1 h2 hz H))
end Mine
namespace Mine
open PySem PySem.W PySem.Challenge
open PyData (keyHash)
noncomputable abbrev so := Str.ofString
noncomputable def stAt (p : Program) (i : Nat) : Stmt := (p.main.body[i]?).getD (.Pass default)
noncomputable def argsOf : Stmt → Arguments
 | .FunctionDef _ a _ _ _ _ _ _ _ _ => a
 | _ => default
noncomputable def bodyOf : Stmt → List Stmt
 | .FunctionDef _ _ b _ _ _ _ _ _ _ => b
 | _ => []
noncomputable def scopeOf : Stmt → Scope
 | .FunctionDef _ _ _ _ _ _ sc _ _ _ => sc
 | _ => default
noncomputable def clsBody : Stmt → List Stmt
 | .ClassDef _ _ _ b _ _ _ _ _ _ _ => b
 | _ => []
noncomputable def mtAt (p : Program) (i j : Nat) : Stmt := ((clsBody (stAt p i))[j]?).getD (.Pass default)
noncomputable abbrev pw : Program := pw_sh0080_01
noncomputable abbrev fm (x y : Str) (s : Stmt) (d m g : Value) : FuncData := ⟨x, y, argsOf s, .stmts (bodyOf s), scopeOf s, 3, [], d, .none, .none, m, none, g, .none, 0⟩
noncomputable abbrev fu (x y : Str) (s : Stmt) : FuncData := ⟨x, y, argsOf s, .stmts (bodyOf s), scopeOf s, 0, [], .none, .none, .none, .none, none, .none, .none, 0⟩
noncomputable abbrev tu (a : Array Value) : Obj := ⟨.type "tuple", none, .seq a 0, #[]⟩
noncomputable abbrev fi (a : Array Value) : Obj := ⟨.none, none, .fields a, #[]⟩
noncomputable abbrev fx (a : FuncData) : Obj := ⟨.type "function", none, .func a, #[]⟩
noncomputable abbrev fo (a : FuncData) : Obj := ⟨.none, none, .func a, #[]⟩
noncomputable abbrev co (x y : Str) (t : Tok) (l a f : Int) (r : Addr) (b : Bool) (g : Int) (q : Addr) (v : Value) (u1 u2 u3 : Addr) (i : Int) (z : Tok) : Obj := ⟨.type "code", none, .fields #[.str x t, .str y (t+1), .str "/claim/cut.py" (t+2), .int l 0, .int a 0, .int 0 0, .int 0 0, .int f 0, .ref r, .bool b, .int g 0, .ref q, v, .ref u1, .ref u2, .ref u3, .int i 0, .int l 0, .str "/claim/cut.py" z], #[]⟩
noncomputable abbrev cg (x y : Str) (t : Tok) (l a c d f : Int) (r : Addr) (b : Bool) (g : Int) (q : Addr) (v1 v2 v3 v4 : Value) (i : Int) : Obj := ⟨.type "code", none, .fields #[.str x t, .str y (t+1), .str "/claim/cut.py" (t+2), .int l 0, .int a 0, .int c 0, .int d 0, .int f 0, .ref r, .bool b, .int g 0, .ref q, v1, v2, v3, v4, .int i 0, .int l 0, .str "/claim/cut.py" (i.toNat+1)], #[]⟩
noncomputable def en (P : Params) (x : Str) (t : Tok) (v : Value) : DictEntry := ⟨keyHash P x, .str x t, v⟩
noncomputable abbrev lf (o : Obj) : BT := .node o .nil .nil
noncomputable abbrev nd (o : Obj) (l r : BT) : BT := .node o l r
@[irreducible] noncomputable def o0 (P : Params) : Obj := ⟨(.type "dict"), none, (.dict #[(en P "__name__" 1 (.str "builtins" 160)), (en P "__doc__" 2 (.builtin "builtins.__doc__:str#opaque")), (en P "__package__" 3 (.builtin "builtins.__package__:str#opaque")), (en P "__loader__" 4 (.builtin "builtins.__loader__:shared#opaque")), (en P "__spec__" 5 (.builtin "builtins.__spec__#opaque")), (en P "__build_class__" 6 (.builtin "__build_class__")), (en P "__import__" 7 (.builtin "__import__")), (en P "abs" 8 (.builtin "abs")), (en P "all" 9 (.builtin "all")), (en P "any" 10 (.builtin "any")), (en P "ascii" 11 (.builtin "ascii")), (en P "bin" 12 (.builtin "bin")), (en P "breakpoint" 13 (.builtin "breakpoint")), (en P "callable" 14 (.builtin "callable")), (en P "chr" 15 (.builtin "chr")), (en P "compile" 16 (.builtin "compile")), (en P "delattr" 17 (.builtin "delattr")), (en P "dir" 18 (.builtin "dir")), (en P "divmod" 19 (.builtin "divmod")), (en P "eval" 20 (.builtin "eval")), (en P "exec" 21 (.builtin "exec")), (en P "format" 22 (.builtin "format")), (en P "getattr" 23 (.builtin "getattr")), (en P "globals" 24 (.builtin "globals")), (en P "hasattr" 25 (.builtin "hasattr")), (en P "hash" 26 (.builtin "hash")), (en P "hex" 27 (.builtin "hex")), (en P "id" 28 (.builtin "id")), (en P "input" 29 (.builtin "input")), (en P "isinstance" 30 (.builtin "isinstance")), (en P "issubclass" 31 (.builtin "issubclass")), (en P "iter" 32 (.builtin "iter")), (en P "aiter" 33 (.builtin "aiter")), (en P "len" 34 (.builtin "len")), (en P "locals" 35 (.builtin "locals")), (en P "max" 36 (.builtin "max")), (en P "min" 37 (.builtin "min")), (en P "next" 38 (.builtin "next")), (en P "anext" 39 (.builtin "anext")), (en P "oct" 40 (.builtin "oct")), (en P "ord" 41 (.builtin "ord")), (en P "pow" 42 (.builtin "pow")), (en P "print" 43 (.builtin "print")), (en P "repr" 44 (.builtin "repr")), (en P "round" 45 (.builtin "round")), (en P "setattr" 46 (.builtin "setattr")), (en P "sorted" 47 (.builtin "sorted")), (en P "sum" 48 (.builtin "sum")), (en P "vars" 49 (.builtin "vars")), (en P "None" 50 .none), (en P "Ellipsis" 51 .ellipsis), (en P "NotImplemented" 52 .notImplemented), (en P "False" 53 (.bool false)), (en P "True" 54 (.bool true)), (en P "bool" 55 (.type "bool")), (en P "memoryview" 56 (.type "memoryview")), (en P "bytearray" 57 (.type "bytearray")), (en P "bytes" 58 (.type "bytes")), (en P "classmethod" 59 (.type "classmethod")), (en P "complex" 60 (.type "complex")), (en P "dict" 61 (.type "dict")), (en P "enumerate" 62 (.type "enumerate")), (en P "filter" 63 (.type "filter")), (en P "float" 64 (.type "float")), (en P "frozenset" 65 (.type "frozenset")), (en P "property" 66 (.type "property")), (en P "int" 67 (.type "int")), (en P "list" 68 (.type "list")), (en P "map" 69 (.type "map")), (en P "object" 70 (.type "object")), (en P "range" 71 (.type "range")), (en P "reversed" 72 (.type "reversed")), (en P "set" 73 (.type "set")), (en P "slice" 74 (.type "slice")), (en P "staticmethod" 75 (.type "staticmethod")), (en P "str" 76 (.type "str")), (en P "super" 77 (.type "super")), (en P "tuple" 78 (.type "tuple")), (en P "type" 79 (.type "type")), (en P "zip" 80 (.type "zip")), (en P "__debug__" 81 (.bool true)), (en P "BaseException" 82 (.type "BaseException")), (en P "BaseExceptionGroup" 83 (.type "BaseExceptionGroup")), (en P "Exception" 84 (.type "Exception")), (en P "GeneratorExit" 85 (.type "GeneratorExit")), (en P "KeyboardInterrupt" 86 (.type "KeyboardInterrupt")), (en P "SystemExit" 87 (.type "SystemExit")), (en P "ArithmeticError" 88 (.type "ArithmeticError")), (en P "AssertionError" 89 (.type "AssertionError")), (en P "AttributeError" 90 (.type "AttributeError")), (en P "BufferError" 91 (.type "BufferError")), (en P "EOFError" 92 (.type "EOFError")), (en P "ImportError" 93 (.type "ImportError")), (en P "LookupError" 94 (.type "LookupError")), (en P "MemoryError" 95 (.type "MemoryError")), (en P "NameError" 96 (.type "NameError")), (en P "OSError" 97 (.type "OSError")), (en P "ReferenceError" 98 (.type "ReferenceError")), (en P "RuntimeError" 99 (.type "RuntimeError")), (en P "StopAsyncIteration" 100 (.type "StopAsyncIteration")), (en P "StopIteration" 101 (.type "StopIteration")), (en P "SyntaxError" 102 (.type "SyntaxError")), (en P "SystemError" 103 (.type "SystemError")), (en P "TypeError" 104 (.type "TypeError")), (en P "ValueError" 105 (.type "ValueError")), (en P "Warning" 106 (.type "Warning")), (en P "FloatingPointError" 107 (.type "FloatingPointError")), (en P "OverflowError" 108 (.type "OverflowError")), (en P "ZeroDivisionError" 109 (.type "ZeroDivisionError")), (en P "BytesWarning" 110 (.type "BytesWarning")), (en P "DeprecationWarning" 111 (.type "DeprecationWarning")), (en P "EncodingWarning" 112 (.type "EncodingWarning")), (en P "FutureWarning" 113 (.type "FutureWarning")), (en P "ImportWarning" 114 (.type "ImportWarning")), (en P "PendingDeprecationWarning" 115 (.type "PendingDeprecationWarning")), (en P "ResourceWarning" 116 (.type "ResourceWarning")), (en P "RuntimeWarning" 117 (.type "RuntimeWarning")), (en P "SyntaxWarning" 118 (.type "SyntaxWarning")), (en P "UnicodeWarning" 119 (.type "UnicodeWarning")), (en P "UserWarning" 120 (.type "UserWarning")), (en P "BlockingIOError" 121 (.type "BlockingIOError")), (en P "ChildProcessError" 122 (.type "ChildProcessError")), (en P "ConnectionError" 123 (.type "ConnectionError")), (en P "FileExistsError" 124 (.type "FileExistsError")), (en P "FileNotFoundError" 125 (.type "FileNotFoundError")), (en P "InterruptedError" 126 (.type "InterruptedError")), (en P "IsADirectoryError" 127 (.type "IsADirectoryError")), (en P "NotADirectoryError" 128 (.type "NotADirectoryError")), (en P "PermissionError" 129 (.type "PermissionError")), (en P "ProcessLookupError" 130 (.type "ProcessLookupError")), (en P "TimeoutError" 131 (.type "TimeoutError")), (en P "IndentationError" 132 (.type "IndentationError")), (en P "_IncompleteInputError" 133 (.type "_IncompleteInputError")), (en P "IndexError" 134 (.type "IndexError")), (en P "KeyError" 135 (.type "KeyError")), (en P "ModuleNotFoundError" 136 (.type "ModuleNotFoundError")), (en P "NotImplementedError" 137 (.type "NotImplementedError")), (en P "PythonFinalizationError" 138 (.type "PythonFinalizationError")), (en P "RecursionError" 139 (.type "RecursionError")), (en P "UnboundLocalError" 140 (.type "UnboundLocalError")), (en P "UnicodeError" 141 (.type "UnicodeError")), (en P "BrokenPipeError" 142 (.type "BrokenPipeError")), (en P "ConnectionAbortedError" 143 (.type "ConnectionAbortedError")), (en P "ConnectionRefusedError" 144 (.type "ConnectionRefusedError")), (en P "ConnectionResetError" 145 (.type "ConnectionResetError")), (en P "TabError" 146 (.type "TabError")), (en P "UnicodeDecodeError" 147 (.type "UnicodeDecodeError")), (en P "UnicodeEncodeError" 148 (.type "UnicodeEncodeError")), (en P "UnicodeTranslateError" 149 (.type "UnicodeTranslateError")), (en P "ExceptionGroup" 150 (.type "ExceptionGroup")), (en P "EnvironmentError" 151 (.type "OSError")), (en P "IOError" 152 (.type "OSError")), (en P "open" 153 (.builtin "open")), (en P "quit" 154 (.builtin "builtins.quit#opaque")), (en P "exit" 155 (.builtin "builtins.exit#opaque")), (en P "copyright" 156 (.builtin "builtins.copyright#opaque")), (en P "credits" 157 (.builtin "builtins.credits#opaque")), (en P "license" 158 (.builtin "builtins.license#opaque")), (en P "help" 159 (.builtin "builtins.help#opaque"))] 159), #[]⟩
@[irreducible] noncomputable def o1 (P : Params) : Obj := ⟨(.type "dict"), none, (.dict #[(en P "builtins" 162 (.ref 4)), (en P "__main__" 163 (.ref 5)), (en P "_sre" 244 (.ref 12))] 3), #[]⟩
@[irreducible] noncomputable def o2 (P : Params) : Obj := ⟨.none, none, (.dict #[(en P "\x69mport.loaded._sre" 183 (.bool true)), (en P "class._frozen_importlib.BuiltinImporter" 185 (.ref 14)), (en P "watched.\x69mport" 206 (.ref 18)), (en P "class._frozen_importlib.ModuleSpec" 216 (.ref 22)), (en P "sys.modules.booked-epoch" 245 (.int 3 0)), (en P "\x69mport.later-laid._sre" 270 (.bool true)), (en P "watched.library" 272 (.ref 27)), (en P "watched.library-objects" 0 (.str "\x0c" 0)), (en P "watched.library-deep._sre" 273 (.str "\x04\x00\x00\x0b\x04\x00\x00\x0b\x04\x00\x00\x03\x04\x00\x00\x0b\x08\x04dict\x02" 0))] 9), #[]⟩
@[irreducible] noncomputable def n0 (P : Params) : DictEntry := en P "__doc__" 166 .none
@[irreducible] noncomputable def n1 (P : Params) : DictEntry := en P "__package__" 167 .none
@[irreducible] noncomputable def n2 (P : Params) : DictEntry := en P "__loader__" 168 (.builtin "__main__.__loader__#opaque")
@[irreducible] noncomputable def n3 (P : Params) : DictEntry := en P "__spec__" 169 .none
@[irreducible] noncomputable def n4 (P : Params) : DictEntry := en P "__annotations__" 170 (.ref 6)
@[irreducible] noncomputable def n5 (P : Params) : DictEntry := en P "__builtins__" 171 (.ref 4)
@[irreducible] noncomputable def n6 (P : Params) : DictEntry := en P "__file__" 173 (.str "/claim/cut.py" 172)
@[irreducible] noncomputable def n7 (P : Params) : DictEntry := en P "__cached__" 174 .none
@[irreducible] noncomputable def n8 (P : Params) : DictEntry := en P "_sre" 275 (.ref 12)
@[irreducible] noncomputable def o3 (P : Params) : Obj := ⟨(.type "dict"), none, (.dict #[(en P "__name__" 165 (.str "__main__" 164)), n0 P, n1 P, n2 P, n3 P, n4 P, n5 P, n6 P, n7 P, n8 P] 10), #[]⟩
@[irreducible] noncomputable def o4 : Obj := ⟨(.type "module"), (some 0), .plain, #[]⟩
@[irreducible] noncomputable def o5 : Obj := ⟨(.type "module"), (some 3), .plain, #[]⟩
@[irreducible] noncomputable def o6 : Obj := ⟨(.type "dict"), none, (.dict #[] 0), #[]⟩
@[irreducible] noncomputable def o7 : Obj := tu #[]
@[irreducible] noncomputable def o8 : Obj := fi #[]
@[irreducible] noncomputable def o9 : Obj := cg "<module>" "<module>" 176 1 0 0 0 0 7 false 175 8 .none .none .none .none 179
@[irreducible] noncomputable def o10 : Obj := ⟨(.type "frame"), none, .plain, #[(some (.ref 9)), (some (.ref 3)), (some (.ref 3)), none, (some (.str "__main__" 164)), none, (some (.ref 0))]⟩
@[irreducible] noncomputable def n9 (P : Params) : DictEntry := en P "__name__" 247 (.str "_sre" 246)
@[irreducible] noncomputable def n10 (P : Params) : DictEntry := en P "__doc__" 248 .none
@[irreducible] noncomputable def n11 (P : Params) : DictEntry := en P "__package__" 250 (.str "" 249)
@[irreducible] noncomputable def n12 (P : Params) : DictEntry := en P "compile" 253 (.builtin "_sre.compile")
@[irreducible] noncomputable def n13 (P : Params) : DictEntry := en P "MAGIC" 261 (.int 20230612 260)
@[irreducible] noncomputable def n14 (P : Params) : DictEntry := en P "CODESIZE" 263 (.int 4 262)
@[irreducible] noncomputable def n15 (P : Params) : DictEntry := en P "MAXREPEAT" 265 (.int 4294967295 264)
@[irreducible] noncomputable def n16 (P : Params) : DictEntry := en P "MAXGROUPS" 267 (.int 1073741823 266)
@[irreducible] noncomputable def n17 (P : Params) : DictEntry := en P "copyright" 269 (.str " SRE 2.2.2 Copyright (c) 1997-2002 by Secret Labs AB " 268)
@[irreducible] noncomputable def o11 (P : Params) : Obj := ⟨(.type "dict"), none, (.dict #[n9 P, n10 P, n11 P, (en P "__loader__" 251 (.ref 14)), (en P "__spec__" 252 (.ref 26)), n12 P, (en P "template" 254 (.builtin "_sre.template")), (en P "getcodesize" 255 (.builtin "_sre.getcodesize")), (en P "ascii_iscased" 256 (.builtin "_sre.ascii_iscased")), (en P "unicode_iscased" 257 (.builtin "_sre.unicode_iscased")), (en P "ascii_tolower" 258 (.builtin "_sre.ascii_tolower")), (en P "unicode_tolower" 259 (.builtin "_sre.unicode_tolower")), n13 P, n14 P, n15 P, n16 P, n17 P] 17), #[]⟩
@[irreducible] noncomputable def o12 : Obj := ⟨(.type "module"), (some 11), .plain, #[]⟩
@[irreducible] noncomputable def o13 (P : Params) : Obj := ⟨(.type "dict"), none, (.dict #[(en P "__module__" 189 (.str "_frozen_importlib" 186)), (en P "__firstlineno__" 190 (.int 971 187)), (en P "__doc__" 191 (.builtin "_frozen_importlib.BuiltinImporter.__doc__:str#opaque")), (en P "_ORIGIN" 192 (.str "built-in" 188)), (en P "find_spec" 193 (.builtin "_frozen_importlib.BuiltinImporter.find_spec#opaque")), (en P "create_module" 194 (.builtin "_frozen_importlib.BuiltinImporter.create_module#opaque")), (en P "exec_module" 195 (.builtin "_frozen_importlib.BuiltinImporter.exec_module#opaque")), (en P "get_code" 196 (.builtin "_frozen_importlib.BuiltinImporter.get_code#opaque")), (en P "get_source" 197 (.builtin "_frozen_importlib.BuiltinImporter.get_source#opaque")), (en P "is_package" 198 (.builtin "_frozen_importlib.BuiltinImporter.is_package#opaque")), (en P "load_module" 199 (.builtin "_frozen_importlib.BuiltinImporter.load_module#opaque")), (en P "__static_attributes__" 200 (.ref 15)), (en P "__dict__" 202 (.ref 16)), (en P "__weakref__" 204 (.ref 17))] 14), #[]⟩
@[irreducible] noncomputable def o14 : Obj := ⟨(.type "type"), none, (.cls ⟨"BuiltinImporter", [(.type "object")], [(.ref 14), (.type "object")], 13, "BuiltinImporter", true, [], [], false, (none), false⟩), #[]⟩
@[irreducible] noncomputable def o16 : Obj := ⟨(.type "getset_descriptor"), none, (.fields #[(.str "__dict__" 201), (.ref 14), (.builtin "function.__dict__"), (.builtin "function.__dict__#set")]), #[]⟩
@[irreducible] noncomputable def o17 : Obj := ⟨(.type "getset_descriptor"), none, (.fields #[(.str "__weakref__" 203), (.ref 14), (.builtin "ExceptionGroup.__weakref__"), .none]), #[]⟩
@[irreducible] noncomputable def o18 : Obj := ⟨.none, none, (.seq #[(.int 13 0), (.str "\x06½\n__module__\x06º\x11_frozen_importlib\x06¾\x0f__firstlineno__\x04»\x00ϋ\x06¿\x07__doc__\t4_frozen_importlib.BuiltinImporter.__doc__:str#opaque\x06À\x07_ORIGIN\x06¼\x08built-in\x06Á\tfind_spec\t2_frozen_importlib.BuiltinImporter.find_spec#opaque\x06Â\x0dcreate_module\t6_frozen_importlib.BuiltinImporter.create_module#opaque\x06Ã\x0bexec_module\t4_frozen_importlib.BuiltinImporter.exec_module#opaque\x06Ä\x08get_code\t1_frozen_importlib.BuiltinImporter.get_code#opaque\x06Å\nget_source\t3_frozen_importlib.BuiltinImporter.get_source#opaque\x06Æ\nis_package\t3_frozen_importlib.BuiltinImporter.is_package#opaque\x06Ç\x0bload_module\t4_frozen_importlib.BuiltinImporter.load_module#opaque\x06È\x15__static_attributes__\x04\x00\x00\x0f\x06Ê\x08__dict__\x04\x00\x00\x10\x06Ì\x0b__weakref__\x04\x00\x00\x11" 0), (.bool true), (.bool true), (.str "" 205), (.int 21 0), (.str "\x06ã\n__module__\x06Ù\x11_frozen_importlib\x06ä\x0f__firstlineno__\x04Ú\x00Ȳ\x06å\x07__doc__\t/_frozen_importlib.ModuleSpec.__doc__:str#opaque\x06æ\x08__init__\t,_frozen_importlib.ModuleSpec.__init__#opaque\x06ç\x08__repr__\t,_frozen_importlib.ModuleSpec.__repr__#opaque\x06è\x06__eq__\t*_frozen_importlib.ModuleSpec.__eq__#opaque\x06é\x06cached\t*_frozen_importlib.ModuleSpec.cached#opaque\x06ê\x06parent\t*_frozen_importlib.ModuleSpec.parent#opaque\x06ë\x0chas_location\t0_frozen_importlib.ModuleSpec.has_location#opaque\x06ì\x15__static_attributes__\x04\x00\x00\x17\x06î\x08__dict__\x04\x00\x00\x18\x06ð\x0b__weakref__\x04\x00\x00\x19\x06ñ\x08__hash__\x00" 0), (.bool true), (.bool true), (.str "" 242)] 1), #[]⟩
@[irreducible] noncomputable def o19 : Obj := ⟨(.type "list"), none, (.seq #[] 0), #[]⟩
@[irreducible] noncomputable def o20 (P : Params) : Obj := ⟨(.type "dict"), none, (.dict #[(en P "name" 208 (.str "_sre" 207)), (en P "loader" 209 (.ref 14)), (en P "origin" 210 (.str "built-in" 184)), (en P "loader_state" 211 .none), (en P "submodule_search_locations" 212 .none), (en P "_uninitialized_submodules" 213 (.ref 19)), (en P "_set_fileattr" 214 (.bool false)), (en P "_cached" 215 .none), (en P "_initializing" 243 (.bool false))] 9), #[]⟩
@[irreducible] noncomputable def o21 (P : Params) : Obj := ⟨(.type "dict"), none, (.dict #[(en P "__module__" 227 (.str "_frozen_importlib" 217)), (en P "__firstlineno__" 228 (.int 562 218)), (en P "__doc__" 229 (.builtin "_frozen_importlib.ModuleSpec.__doc__:str#opaque")), (en P "__init__" 230 (.builtin "_frozen_importlib.ModuleSpec.__init__#opaque")), (en P "__repr__" 231 (.builtin "_frozen_importlib.ModuleSpec.__repr__#opaque")), (en P "__eq__" 232 (.builtin "_frozen_importlib.ModuleSpec.__eq__#opaque")), (en P "cached" 233 (.builtin "_frozen_importlib.ModuleSpec.cached#opaque")), (en P "parent" 234 (.builtin "_frozen_importlib.ModuleSpec.parent#opaque")), (en P "has_location" 235 (.builtin "_frozen_importlib.ModuleSpec.has_location#opaque")), (en P "__static_attributes__" 236 (.ref 23)), (en P "__dict__" 238 (.ref 24)), (en P "__weakref__" 240 (.ref 25)), (en P "__hash__" 241 .none)] 13), #[]⟩
@[irreducible] noncomputable def o22 : Obj := ⟨(.type "type"), none, (.cls ⟨"ModuleSpec", [(.type "object")], [(.ref 22), (.type "object")], 21, "ModuleSpec", true, [], [], false, (none), false⟩), #[]⟩
@[irreducible] noncomputable def o23 : Obj := tu #[(.str "_cached" 219), (.str "_set_fileattr" 220), (.str "_uninitialized_submodules" 221), (.str "loader" 222), (.str "loader_state" 223), (.str "name" 224), (.str "origin" 225), (.str "submodule_search_locations" 226)]
@[irreducible] noncomputable def o24 : Obj := ⟨(.type "getset_descriptor"), none, (.fields #[(.str "__dict__" 237), (.ref 22), (.builtin "function.__dict__"), (.builtin "function.__dict__#set")]), #[]⟩
@[irreducible] noncomputable def o25 : Obj := ⟨(.type "getset_descriptor"), none, (.fields #[(.str "__weakref__" 239), (.ref 22), (.builtin "ExceptionGroup.__weakref__"), .none]), #[]⟩
@[irreducible] noncomputable def o26 : Obj := ⟨(.ref 22), (some 20), .plain, #[]⟩
@[irreducible] noncomputable def o27 : Obj := ⟨.none, none, (.seq #[(.int 11 0), (.str (Str.mk #[6, 247, 8, 95, 95, 110, 97, 109, 101, 95, 95, 6, 246, 4, 95, 115, 114, 101, 6, 248, 7, 95, 95, 100, 111, 99, 95, 95, 0, 6, 250, 11, 95, 95, 112, 97, 99, 107, 97, 103, 101, 95, 95, 6, 249, 0, 6, 251, 10, 95, 95, 108, 111, 97, 100, 101, 114, 95, 95, 4, 0, 0, 14, 6, 252, 8, 95, 95, 115, 112, 101, 99, 95, 95, 4, 0, 0, 26, 6, 253, 7, 99, 111, 109, 112, 105, 108, 101, 9, 12, 95, 115, 114, 101, 46, 99, 111, 109, 112, 105, 108, 101, 6, 254, 8, 116, 101, 109, 112, 108, 97, 116, 101, 9, 13, 95, 115, 114, 101, 46, 116, 101, 109, 112, 108, 97, 116, 101, 6, 255, 11, 103, 101, 116, 99, 111, 100, 101, 115, 105, 122, 101, 9, 16, 95, 115, 114, 101, 46, 103, 101, 116, 99, 111, 100, 101, 115, 105, 122, 101, 6, 256, 13, 97, 115, 99, 105, 105, 95, 105, 115, 99, 97, 115, 101, 100, 9, 18, 95, 115, 114, 101, 46, 97, 115, 99, 105, 105, 95, 105, 115, 99, 97, 115, 101, 100, 6, 257, 15, 117, 110, 105, 99, 111, 100, 101, 95, 105, 115, 99, 97, 115, 101, 100, 9, 20, 95, 115, 114, 101, 46, 117, 110, 105, 99, 111, 100, 101, 95, 105, 115, 99, 97, 115, 101, 100, 6, 258, 13, 97, 115, 99, 105, 105, 95, 116, 111, 108, 111, 119, 101, 114, 9, 18, 95, 115, 114, 101, 46, 97, 115, 99, 105, 105, 95, 116, 111, 108, 111, 119, 101, 114, 6, 259, 15, 117, 110, 105, 99, 111, 100, 101, 95, 116, 111, 108, 111, 119, 101, 114, 9, 20, 95, 115, 114, 101, 46, 117, 110, 105, 99, 111, 100, 101, 95, 116, 111, 108, 111, 119, 101, 114, 6, 261, 5, 77, 65, 71, 73, 67, 4, 260, 0, 20230612, 6, 263, 8, 67, 79, 68, 69, 83, 73, 90, 69, 4, 262, 0, 4, 6, 265, 9, 77, 65, 88, 82, 69, 80, 69, 65, 84, 4, 264, 0, 4294967295, 6, 267, 9, 77, 65, 88, 71, 82, 79, 85, 80, 83, 4, 266, 0, 1073741823, 6, 269, 9, 99, 111, 112, 121, 114, 105, 103, 104, 116, 6, 268, 53, 32, 83, 82, 69, 32, 50, 46, 50, 46, 50, 32, 67, 111, 112, 121, 114, 105, 103, 104, 116, 32, 40, 99, 41, 32, 49, 57, 57, 55, 45, 50, 48, 48, 50, 32, 98, 121, 32, 83, 101, 99, 114, 101, 116, 32, 76, 97, 98, 115, 32, 65, 66, 32]) 0), (.bool true), (.bool false), (.str "_sre" 271)] 0), #[]⟩
@[irreducible] noncomputable def t0 : BT := lf o7
@[irreducible] noncomputable def t1 (P : Params) : BT := nd (o2 P) (nd o4 (nd o8 (lf o16) (lf o24)) (nd o12 (lf (o20 P)) .nil)) (nd o6 (nd o10 (lf o18) (lf o26)) (nd o14 (lf o22) .nil))
@[irreducible] noncomputable def tr0 (P : Params) : BT := nd (o0 P) (nd (o1 P) (nd (o3 P) (nd o7 t0 (lf o23)) (nd (o11 P) (lf o19) (lf o27))) (nd o5 (nd o9 (lf o17) (lf o25)) (nd (o13 P) (lf (o21 P)) .nil))) (t1 P)
@[irreducible] noncomputable def sh0 (P : Params) (os : OsState) : SharedT := ⟨tr0 P, 28, {}, #[], {}, 276, os⟩
@[irreducible] noncomputable def o11x1 (P : Params) : Obj := ⟨(.type "dict"), none, (.dict #[n9 P, n10 P, n11 P, (en P "__loader__" 251 (.builtin "off-the-table:_sre.__loader__:shared#opaque")), (en P "__spec__" 252 (.builtin "off-the-table:_sre.__spec__:shared#opaque")), n12 P, (en P "template" 254 (.builtin "off-the-table:_sre.template:shared#opaque")), (en P "getcodesize" 255 (.builtin "off-the-table:_sre.getcodesize:shared#opaque")), (en P "ascii_iscased" 256 (.builtin "off-the-table:_sre.ascii_iscased:shared#opaque")), (en P "unicode_iscased" 257 (.builtin "off-the-table:_sre.unicode_iscased:shared#opaque")), (en P "ascii_tolower" 258 (.builtin "off-the-table:_sre.ascii_tolower:shared#opaque")), (en P "unicode_tolower" 259 (.builtin "off-the-table:_sre.unicode_tolower:shared#opaque")), n13 P, n14 P, n15 P, n16 P, n17 P] 17), #[]⟩
@[irreducible] noncomputable def tr1 (P : Params) : BT := nd (o0 P) (nd (o1 P) (nd (o3 P) (nd o7 t0 (lf o23)) (nd (o11x1 P) (lf o19) (lf o27))) (nd o5 (nd o9 (lf o17) (lf o25)) (nd (o13 P) (lf (o21 P)) .nil))) (t1 P)
@[irreducible] noncomputable def sh1 (P : Params) (os : OsState) : SharedT := ⟨tr1 P, 28, {}, #[], {}, 276, os⟩
theorem open_big (w : World) (os : OsState) : impRunT treeTable (opening pw) w 800 ⟨.nil, 0, {}, #[], {}, 1, os⟩ ⟨boot (opening pw), .builtin "boot" {}, default, []⟩ = some (sh0 w.params os) := by kernel_rfl
theorem fence_big (P : Params) (os : OsState) : fenceModules? pw (sh0 P os).abs = some (sh1 P os).abs := by kernel_rfl
@[irreducible] noncomputable def o30 : Obj := cg "<module>" "<module>" 277 1 0 0 0 0 28 false 276 29 .none .none .none .none 280
@[irreducible] noncomputable def o31 : Obj := ⟨(.type "frame"), none, .plain, #[(some (.ref 30)), (some (.ref 3)), (some (.ref 3)), none, (some (.str "__main__" 164)), none, (some (.ref 0))]⟩
@[irreducible] noncomputable def tr2 (P : Params) : BT := nd (o0 P) (nd (o1 P) (nd (o3 P) (nd o7 (nd o7 (lf o31) .nil) (lf o23)) (nd (o11x1 P) (lf o19) (lf o27))) (nd o5 (nd o9 (lf o17) (lf o25)) (nd (o13 P) (lf (o21 P)) (lf o8)))) (nd (o2 P) (nd o4 (nd o8 (lf o16) (lf o24)) (nd o12 (lf (o20 P)) t0)) (nd o6 (nd o10 (lf o18) (lf o26)) (nd o14 (lf o22) (lf o30))))
@[irreducible] noncomputable def sh2 (P : Params) (os : OsState) : SharedT := ⟨tr2 P, 32, {}, #[], {}, 282, os⟩
@[irreducible] noncomputable def envT : Env := { scope := pw.main.scope, locals := mainNs, globals := mainNs, cells := [], code := (.ref 30), frame := (some 31) }
@[irreducible] noncomputable def Γ0 : Ctx := ⟨.builtin "claim.caller" {}, none, none, [], none⟩
@[irreducible] noncomputable def bodyC : Code := .body (behindTheImports pw) envT
@[irreducible] noncomputable def Γ1 : Ctx := Γ0.enter bodyC none ⟨0, 0, 0, 0⟩
theorem pre_big (w : World) (os : OsState) : big pw w 400 Γ0 (do let code ← moduleCode pw.main; let frame ← newBodyFrame code mainNs mainNs; pure (code, frame)) default (sh1 w.params os) = some (.ok ((.ref 30), 31), ⟨0, 0, 0, 0⟩, sh2 w.params os) := by kernel_rfl
@[irreducible] noncomputable def n18 (P : Params) : DictEntry := en P "__name__" 165 (.str "cpy313.tabnanny" 289)
@[irreducible] noncomputable def n19 (P : Params) : DictEntry := en P "_wall" 288 (.ref 38)
@[irreducible] noncomputable def o3x1 (P : Params) : Obj := ⟨(.type "dict"), none, (.dict #[n18 P, n0 P, n1 P, n2 P, n3 P, n4 P, n5 P, n6 P, n7 P, n8 P, n19 P] 11), #[]⟩
@[irreducible] noncomputable def o29x1 : Obj := fi #[(.int 2 0), (.int 0 0), (.ref 37)]
@[irreducible] noncomputable def o34 : Obj := tu #[(.str "k" 285)]
@[irreducible] noncomputable def o36 : Obj := fo (fu "_wall" "_wall" (stAt pw 1))
@[irreducible] noncomputable def o37 : Obj := co "_wall" "_wall" 282 2 1 3 32 true 276 33 .none 34 35 36 286 287
@[irreducible] noncomputable def o38 : Obj := fx (fm "_wall" "_wall" (stAt pw 1) .none (.str "__main__" 164) (.ref 37))
@[irreducible] noncomputable def tr3 (P : Params) : BT := nd (o0 P) (nd (o1 P) (nd (o3x1 P) (nd o7 (nd o7 (lf o31) .nil) (lf o23)) (nd (o11x1 P) (nd o19 t0 .nil) (lf o27))) (nd o5 (nd o9 (nd o17 (lf o8) .nil) (lf o25)) (nd (o13 P) (nd (o21 P) (lf o37) .nil) (lf o29x1)))) (nd (o2 P) (nd o4 (nd o8 (nd o16 t0 .nil) (lf o24)) (nd o12 (nd (o20 P) (lf o36) .nil) t0)) (nd o6 (nd o10 (nd o18 (lf o34) .nil) (lf o26)) (nd o14 (nd o22 (lf o38) .nil) (lf o30))))
@[irreducible] noncomputable def sh3 (P : Params) (os : OsState) : SharedT := ⟨tr3 P, 39, {}, #[], {}, 291, os⟩
@[irreducible] noncomputable def sts0 : List Stmt := [stAt pw 1, stAt pw 2]
theorem pc0 (os : OsState) (w : World) : bigH noHint pw w 4000 Γ1 (execs sts0 envT) ⟨0, 0, 0, 0⟩ (sh2 w.params os) = some (.ok .next, ⟨5, 0, 5, 8⟩, sh3 w.params os) := by kernel_rfl
@[irreducible] noncomputable def n20 (P : Params) : DictEntry := en P "Whitespace" 390 (.ref 100)
@[irreducible] noncomputable def o3x2 (P : Params) : Obj := ⟨(.type "dict"), none, (.dict #[n18 P, n0 P, n1 P, n2 P, n3 P, n4 P, n5 P, n6 P, n7 P, n8 P, n19 P, n20 P] 12), #[]⟩
@[irreducible] noncomputable def o29x2 : Obj := fi #[(.int 2 0), (.int 0 0), (.ref 37), (.int 6 0), (.int 0 0), (.ref 44)]
@[irreducible] noncomputable def o40 : Obj := ⟨(.type "builtin_function_or_method"), none, (.fields #[(.builtin "type.__prepare__"), (.type "type")]), #[]⟩
@[irreducible] noncomputable def n21 (P : Params) : DictEntry := en P "__module__" 298 (.str "cpy313.tabnanny" 289)
@[irreducible] noncomputable def n22 (P : Params) : DictEntry := en P "__firstlineno__" 302 (.int 6 301)
@[irreducible] noncomputable def n23 (P : Params) : DictEntry := en P "S" 306 (.str " " 304)
@[irreducible] noncomputable def n24 (P : Params) : DictEntry := en P "T" 307 (.str "\t" 305)
@[irreducible] noncomputable def n25 (P : Params) : DictEntry := en P "__init__" 322 (.ref 55)
@[irreducible] noncomputable def n26 (P : Params) : DictEntry := en P "longest_run_of_spaces" 331 (.ref 62)
@[irreducible] noncomputable def n27 (P : Params) : DictEntry := en P "indent_level" 343 (.ref 69)
@[irreducible] noncomputable def n28 (P : Params) : DictEntry := en P "equal" 351 (.ref 76)
@[irreducible] noncomputable def n29 (P : Params) : DictEntry := en P "not_equal_witness" 359 (.ref 83)
@[irreducible] noncomputable def n30 (P : Params) : DictEntry := en P "less" 369 (.ref 90)
@[irreducible] noncomputable def n31 (P : Params) : DictEntry := en P "not_less_witness" 377 (.ref 97)
@[irreducible] noncomputable def n32 (P : Params) : DictEntry := en P "__static_attributes__" 383 (.ref 98)
@[irreducible] noncomputable def o41 (P : Params) : Obj := ⟨(.type "dict"), none, (.dict #[n21 P, (en P "__qualname__" 300 (.str "Whitespace" 299)), n22 P, n23 P, n24 P, n25 P, n26 P, n27 P, n28 P, n29 P, n30 P, n31 P, n32 P] 13), #[]⟩
@[irreducible] noncomputable def o43 : Obj := fi #[(.int 9 0), (.int 4 0), (.ref 54), (.int 32 0), (.int 4 0), (.ref 61), (.int 36 0), (.int 4 0), (.ref 68), (.int 43 0), (.int 4 0), (.ref 75), (.int 46 0), (.int 4 0), (.ref 82), (.int 49 0), (.int 4 0), (.ref 89), (.int 60 0), (.int 4 0), (.ref 96)]
@[irreducible] noncomputable def o44 : Obj := cg "Whitespace" "Whitespace" 293 6 0 0 0 0 42 false 276 43 .none .none .none .none 296
@[irreducible] noncomputable def o45 : Obj := ⟨(.type "frame"), none, .plain, #[(some (.ref 44)), (some (.ref 3)), (some (.ref 41)), none, (some (.str "cpy313.tabnanny" 289)), none, (some (.ref 0))]⟩
@[irreducible] noncomputable def o46 : Obj := ⟨(.type "str_ascii_iterator"), none, (.fields #[.none, (.int 2 0)]), #[]⟩
@[irreducible] noncomputable def o48 : Obj := ⟨(.type "StopIteration"), none, (.fields #[(.ref 47), .none, .none, .none, (.bool false), .none]), #[]⟩
@[irreducible] noncomputable def o51 : Obj := tu #[(.str "self" 311), (.str "ws" 312), (.str "S" 313), (.str "T" 314), (.str "count" 315), (.str "b" 316), (.str "n" 317), (.str "nt" 318), (.str "ch" 319)]
@[irreducible] noncomputable def o53 : Obj := fo (fu "__init__" "Whitespace.__init__" (mtAt pw 3 1))
@[irreducible] noncomputable def o54 : Obj := co "__init__" "Whitespace.__init__" 308 9 2 3 49 true 276 50 .none 51 52 53 320 321
@[irreducible] noncomputable def o55 : Obj := fx (fm "__init__" "Whitespace.__init__" (mtAt pw 3 1) .none (.str "cpy313.tabnanny" 289) (.ref 54))
@[irreducible] noncomputable def o58 : Obj := tu #[(.str "self" 326), (.str "count" 327), (.str "trailing" 328)]
@[irreducible] noncomputable def o60 : Obj := fo (fu "longest_run_of_spaces" "Whitespace.longest_run_of_spaces" (mtAt pw 3 2))
@[irreducible] noncomputable def o61 : Obj := co "longest_run_of_spaces" "Whitespace.longest_run_of_spaces" 323 32 1 3 56 true 276 57 .none 58 59 60 329 330
@[irreducible] noncomputable def o62 : Obj := fx (fm "longest_run_of_spaces" "Whitespace.longest_run_of_spaces" (mtAt pw 3 2) .none (.str "cpy313.tabnanny" 289) (.ref 61))
@[irreducible] noncomputable def o65 : Obj := tu #[(.str "self" 335), (.str "tabsize" 336), (.str "count" 337), (.str "trailing" 338), (.str "il" 339), (.str "i" 340)]
@[irreducible] noncomputable def o67 : Obj := fo (fu "indent_level" "Whitespace.indent_level" (mtAt pw 3 3))
@[irreducible] noncomputable def o68 : Obj := co "indent_level" "Whitespace.indent_level" 332 36 2 3 63 true 276 64 .none 65 66 67 341 342
@[irreducible] noncomputable def o69 : Obj := fx (fm "indent_level" "Whitespace.indent_level" (mtAt pw 3 3) .none (.str "cpy313.tabnanny" 289) (.ref 68))
@[irreducible] noncomputable def o72 : Obj := tu #[(.str "self" 347), (.str "other" 348)]
@[irreducible] noncomputable def o74 : Obj := fo (fu "equal" "Whitespace.equal" (mtAt pw 3 4))
@[irreducible] noncomputable def o75 : Obj := co "equal" "Whitespace.equal" 344 43 2 3 70 true 276 71 .none 72 73 74 349 350
@[irreducible] noncomputable def o76 : Obj := fx (fm "equal" "Whitespace.equal" (mtAt pw 3 4) .none (.str "cpy313.tabnanny" 289) (.ref 75))
@[irreducible] noncomputable def o79 : Obj := tu #[(.str "self" 355), (.str "other" 356)]
@[irreducible] noncomputable def o81 : Obj := fo (fu "not_equal_witness" "Whitespace.not_equal_witness" (mtAt pw 3 5))
@[irreducible] noncomputable def o82 : Obj := co "not_equal_witness" "Whitespace.not_equal_witness" 352 46 2 3 77 true 276 78 .none 79 80 81 357 358
@[irreducible] noncomputable def o83 : Obj := fx (fm "not_equal_witness" "Whitespace.not_equal_witness" (mtAt pw 3 5) .none (.str "cpy313.tabnanny" 289) (.ref 82))
@[irreducible] noncomputable def o86 : Obj := tu #[(.str "self" 363), (.str "other" 364), (.str "n" 365), (.str "ts" 366)]
@[irreducible] noncomputable def o88 : Obj := fo (fu "less" "Whitespace.less" (mtAt pw 3 6))
@[irreducible] noncomputable def o89 : Obj := co "less" "Whitespace.less" 360 49 2 3 84 true 276 85 .none 86 87 88 367 368
@[irreducible] noncomputable def o90 : Obj := fx (fm "less" "Whitespace.less" (mtAt pw 3 6) .none (.str "cpy313.tabnanny" 289) (.ref 89))
@[irreducible] noncomputable def o93 : Obj := tu #[(.str "self" 373), (.str "other" 374)]
@[irreducible] noncomputable def o95 : Obj := fo (fu "not_less_witness" "Whitespace.not_less_witness" (mtAt pw 3 7))
@[irreducible] noncomputable def o96 : Obj := co "not_less_witness" "Whitespace.not_less_witness" 370 60 2 3 91 true 276 92 .none 93 94 95 375 376
@[irreducible] noncomputable def o97 : Obj := fx (fm "not_less_witness" "Whitespace.not_less_witness" (mtAt pw 3 7) .none (.str "cpy313.tabnanny" 289) (.ref 96))
@[irreducible] noncomputable def o98 : Obj := tu #[(.str "is_simple" 378), (.str "n" 379), (.str "norm" 380), (.str "nt" 381), (.str "raw" 382)]
@[irreducible] noncomputable def o99 (P : Params) : Obj := ⟨(.type "dict"), none, (.dict #[n21 P, n22 P, n23 P, n24 P, n25 P, n26 P, n27 P, n28 P, n29 P, n30 P, n31 P, n32 P, (en P "__dict__" 385 (.ref 101)), (en P "__weakref__" 387 (.ref 102)), (en P "__doc__" 388 .none)] 4), #[]⟩
@[irreducible] noncomputable def o100 : Obj := ⟨(.type "type"), none, (.cls ⟨"Whitespace", [(.type "object")], [(.ref 100), (.type "object")], 99, "Whitespace", true, [], [], false, (none), false⟩), #[none, none, (some (.str "Whitespace" 291)), (some (.str "Whitespace" 299)), (some (.builtin "object.__new__")), (some (.bool true))]⟩
@[irreducible] noncomputable def o101 : Obj := ⟨(.type "getset_descriptor"), none, (.fields #[(.str "__dict__" 384), (.ref 100), (.builtin "function.__dict__"), (.builtin "function.__dict__#set")]), #[]⟩
@[irreducible] noncomputable def o102 : Obj := ⟨(.type "getset_descriptor"), none, (.fields #[(.str "__weakref__" 386), (.ref 100), (.builtin "ExceptionGroup.__weakref__"), .none]), #[]⟩
@[irreducible] noncomputable def o103 : Obj := ⟨(.type "super"), none, (.fields #[(.ref 100), (.ref 100), (.ref 100)]), #[]⟩
@[irreducible] noncomputable def o104 : Obj := ⟨(.type "builtin_function_or_method"), none, (.fields #[(.builtin "object.__init_subclass__"), (.ref 100)]), #[]⟩
@[irreducible] noncomputable def t2 : BT := nd o7 (nd o7 (nd o31 t0 (lf o95)) (nd o7 (lf o79) .nil)) (nd o23 (nd o7 (lf o8) (lf o103)) (nd o55 t0 .nil))
@[irreducible] noncomputable def t3 (P : Params) : BT := nd (o11x1 P) (nd o19 (nd o7 (lf o67) (lf (o99 P))) (nd o51 (lf o83) .nil)) (nd o27 (nd o43 (lf o75) .nil) (nd o7 t0 .nil))
@[irreducible] noncomputable def t4 (P : Params) : BT := nd o5 (nd o9 (nd o17 (nd o8 (lf o65) (lf o97)) (nd o7 (lf o81) .nil)) (nd o25 (nd (o41 P) t0 .nil) (nd o8 (lf o89) .nil))) (nd (o13 P) (nd (o21 P) (nd o37 (lf o69) (lf o101)) (nd o53 (lf o8) .nil)) (nd o29x2 (nd o45 t0 .nil) (nd o61 (lf o93) .nil)))
@[irreducible] noncomputable def t5 (P : Params) : BT := nd (o2 P) (nd o4 (nd o8 (nd o16 (nd o7 (lf o8) (lf o96)) (nd o48 t0 .nil)) (nd o24 (nd o40 (lf o72) (lf o104)) (nd o7 (lf o88) .nil))) (nd o12 (nd (o20 P) (nd o36 (lf o68) (lf o100)) (nd o7 t0 .nil)) (nd o7 (nd o44 (lf o76) .nil) (nd o60 (lf o8) .nil)))) (nd o6 (nd o10 (nd o18 (nd o34 t0 (lf o98)) (nd o8 (lf o82) .nil)) (nd o26 (nd o7 (lf o74) .nil) (nd o58 (lf o90) .nil))) (nd o14 (nd o22 (nd o38 t0 (lf o102)) (nd o54 (lf o86) .nil)) (nd o30 (nd o46 (lf o8) .nil) (nd o62 t0 .nil))))
@[irreducible] noncomputable def tr4 (P : Params) : BT := nd (o0 P) (nd (o1 P) (nd (o3x2 P) t2 (t3 P)) (t4 P)) (t5 P)
@[irreducible] noncomputable def sh4 (P : Params) (os : OsState) : SharedT := ⟨tr4 P, 105, {}, #[], {}, 391, os⟩
@[irreducible] noncomputable def sts1 : List Stmt := [stAt pw 3]
theorem pc1 (os : OsState) : ∀ w : World, bigH noHint pw w 4000 Γ1 (execs sts1 envT) ⟨5, 0, 5, 8⟩ (sh3 w.params os) = some (.ok .next, ⟨6, 0, 61, 16⟩, sh4 w.params os) := byRow2 "special-get-raises" (fun w => by kernel_rfl) (fun w => by kernel_rfl)
@[irreducible] noncomputable def n33 (P : Params) : DictEntry := en P "__name__" 165 (.str "cpy313.stringprep" 391)
@[irreducible] noncomputable def o3x3 (P : Params) : Obj := ⟨(.type "dict"), none, (.dict #[n33 P, n0 P, n1 P, n2 P, n3 P, n4 P, n5 P, n6 P, n7 P, n8 P, n19 P, n20 P] 12), #[]⟩
@[irreducible] noncomputable def tr5 (P : Params) : BT := nd (o0 P) (nd (o1 P) (nd (o3x3 P) t2 (t3 P)) (t4 P)) (t5 P)
@[irreducible] noncomputable def sh5 (P : Params) (os : OsState) : SharedT := ⟨tr5 P, 105, {}, #[], {}, 393, os⟩
@[irreducible] noncomputable def sts2 : List Stmt := [stAt pw 4]
theorem pc2 (os : OsState) (w : World) : bigH noHint pw w 4000 Γ1 (execs sts2 envT) ⟨6, 0, 61, 16⟩ (sh4 w.params os) = some (.ok .next, ⟨62, 0, 62, 8⟩, sh5 w.params os) := by kernel_rfl
@[irreducible] noncomputable def n34 (P : Params) : DictEntry := en P "b1_set" 452 (.ref 112)
@[irreducible] noncomputable def o3x4 (P : Params) : Obj := ⟨(.type "dict"), none, (.dict #[n33 P, n0 P, n1 P, n2 P, n3 P, n4 P, n5 P, n6 P, n7 P, n8 P, n19 P, n20 P, n34 P] 13), #[]⟩
@[irreducible] noncomputable def o105 : Obj := ⟨(.type "list"), none, (.seq #[(.int 173 393), (.int 847 394), (.int 6150 395), (.int 6155 396), (.int 6156 397), (.int 6157 398), (.int 8203 399), (.int 8204 400), (.int 8205 401), (.int 8288 402), (.int 65279 403)] 0), #[]⟩
@[irreducible] noncomputable def o106 : Obj := ⟨(.type "range"), none, (.fields #[(.int 65024 404), (.int 65040 405), (.int 1 406)]), #[]⟩
@[irreducible] noncomputable def o107 : Obj := ⟨(.type "list"), none, (.seq #[(.int 65024 409), (.int 65025 410), (.int 65026 411), (.int 65027 412), (.int 65028 413), (.int 65029 414), (.int 65030 415), (.int 65031 416), (.int 65032 417), (.int 65033 418), (.int 65034 419), (.int 65035 420), (.int 65036 421), (.int 65037 422), (.int 65038 423), (.int 65039 424)] 18), #[]⟩
@[irreducible] noncomputable def o108 : Obj := ⟨(.type "range_iterator"), none, (.fields #[(.int 65040 0), (.int 0 0), (.int 1 0)]), #[]⟩
@[irreducible] noncomputable def o110 : Obj := ⟨(.type "StopIteration"), none, (.fields #[(.ref 109), .none, .none, .none, (.bool false), .none]), #[]⟩
@[irreducible] noncomputable def o111 : Obj := ⟨(.type "list"), none, (.seq #[(.int 173 393), (.int 847 394), (.int 6150 395), (.int 6155 396), (.int 6156 397), (.int 6157 398), (.int 8203 399), (.int 8204 400), (.int 8205 401), (.int 8288 402), (.int 65279 403), (.int 65024 409), (.int 65025 410), (.int 65026 411), (.int 65027 412), (.int 65028 413), (.int 65029 414), (.int 65030 415), (.int 65031 416), (.int 65032 417), (.int 65033 418), (.int 65034 419), (.int 65035 420), (.int 65036 421), (.int 65037 422), (.int 65038 423), (.int 65039 424)] 0), #[]⟩
@[irreducible] noncomputable def o112 (P : Params) : Obj := ⟨(.type "set"), none, (.set #[(65024, (.int 65024 409)), (65025, (.int 65025 410)), (65026, (.int 65026 411)), (65027, (.int 65027 412)), (65028, (.int 65028 413)), (65029, (.int 65029 414)), (6150, (.int 6150 395)), (65030, (.int 65030 415)), (65031, (.int 65031 416)), (65032, (.int 65032 417)), (65033, (.int 65033 418)), (6155, (.int 6155 396)), (6156, (.int 6156 397)), (6157, (.int 6157 398)), (8203, (.int 8203 399)), (8204, (.int 8204 400)), (8205, (.int 8205 401)), (65034, (.int 65034 419)), (65035, (.int 65035 420)), (65036, (.int 65036 421)), (65037, (.int 65037 422)), (65038, (.int 65038 423)), (65039, (.int 65039 424)), (173, (.int 173 393)), (847, (.int 847 394)), (8288, (.int 8288 402)), (65279, (.int 65279 403))] 29 ⟨127, #[0, 1, 2, 3, 4, 5, 6, 7, 8, 9, 10, 11, 12, 13, 14, 15, 16, 17, 18, 19, 20, 21, 22, 45, 79, 96, 127], #[], 0, !P.followText "set-order", 2, true⟩), #[]⟩
@[irreducible] noncomputable def o113 : Obj := ⟨(.type "list_iterator"), none, (.fields #[.none, (.int 27 0)]), #[]⟩
@[irreducible] noncomputable def o115 : Obj := ⟨(.type "StopIteration"), none, (.fields #[(.ref 114), .none, .none, .none, (.bool false), .none]), #[]⟩
@[irreducible] noncomputable def t6 (P : Params) : BT := nd (o11x1 P) (nd o19 (nd o7 (lf o67) (lf (o99 P))) (nd o51 (lf o83) (lf o115))) (nd o27 (nd o43 (lf o75) (lf o107)) (nd o7 t0 .nil))
@[irreducible] noncomputable def tr6 (P : Params) : BT := nd (o0 P) (nd (o1 P) (nd (o3x4 P) (nd o7 (nd o7 (nd o31 t0 (lf o95)) (nd o7 (lf o79) (lf o111))) (nd o23 (nd o7 (lf o8) (lf o103)) (nd o55 t0 .nil))) (t6 P)) (nd o5 (nd o9 (nd o17 (nd o8 (lf o65) (lf o97)) (nd o7 (lf o81) (lf o113))) (nd o25 (nd (o41 P) t0 (lf o105)) (nd o8 (lf o89) .nil))) (nd (o13 P) (nd (o21 P) (nd o37 (lf o69) (lf o101)) (nd o53 (lf o8) .nil)) (nd o29x2 (nd o45 t0 t0) (nd o61 (lf o93) .nil))))) (nd (o2 P) (nd o4 (nd o8 (nd o16 (nd o7 (lf o8) (lf o96)) (nd o48 t0 (lf (o112 P)))) (nd o24 (nd o40 (lf o72) (lf o104)) (nd o7 (lf o88) .nil))) (nd o12 (nd (o20 P) (nd o36 (lf o68) (lf o100)) (nd o7 t0 .nil)) (nd o7 (nd o44 (lf o76) (lf o108)) (nd o60 (lf o8) .nil)))) (nd o6 (nd o10 (nd o18 (nd o34 t0 (lf o98)) (nd o8 (lf o82) t0)) (nd o26 (nd o7 (lf o74) (lf o106)) (nd o58 (lf o90) .nil))) (nd o14 (nd o22 (nd o38 t0 (lf o102)) (nd o54 (lf o86) .nil)) (nd o30 (nd o46 (lf o8) (lf o110)) (nd o62 t0 .nil)))))
@[irreducible] noncomputable def sh6 (P : Params) (os : OsState) : SharedT := ⟨tr6 P, 116, {}, #[], {}, 453, os⟩
@[irreducible] noncomputable def sts3 : List Stmt := [stAt pw 5]
theorem pc3 (os : OsState) : ∀ w : World, bigH listHint pw w 4000 Γ1 (execs sts3 envT) ⟨62, 0, 62, 8⟩ (sh5 w.params os) = some (.ok .next, ⟨63, 0, 63, 6⟩, sh6 w.params os) := byRow2 "special-get-raises" (fun w => by kernel_rfl) (fun w => by kernel_rfl)
@[irreducible] noncomputable def n35 (P : Params) : DictEntry := en P "in_table_b1" 459 (.ref 122)
@[irreducible] noncomputable def o3x5 (P : Params) : Obj := ⟨(.type "dict"), none, (.dict #[n33 P, n0 P, n1 P, n2 P, n3 P, n4 P, n5 P, n6 P, n7 P, n8 P, n19 P, n20 P, n34 P, n35 P] 14), #[]⟩
@[irreducible] noncomputable def o29x3 : Obj := fi #[(.int 2 0), (.int 0 0), (.ref 37), (.int 6 0), (.int 0 0), (.ref 44), (.int 64 0), (.int 0 0), (.ref 121)]
@[irreducible] noncomputable def o118 : Obj := tu #[(.str "code" 456)]
@[irreducible] noncomputable def o120 : Obj := fo (fu "in_table_b1" "in_table_b1" (stAt pw 6))
@[irreducible] noncomputable def o121 : Obj := co "in_table_b1" "in_table_b1" 453 64 1 3 116 true 276 117 .none 118 119 120 457 458
@[irreducible] noncomputable def o122 : Obj := fx (fm "in_table_b1" "in_table_b1" (stAt pw 6) .none (.str "cpy313.stringprep" 391) (.ref 121))
@[irreducible] noncomputable def tr7 (P : Params) : BT := nd (o0 P) (nd (o1 P) (nd (o3x5 P) (nd o7 (nd o7 (nd o31 t0 (lf o95)) (nd o7 (lf o79) (lf o111))) (nd o23 (nd o7 (lf o8) (lf o103)) (nd o55 t0 t0))) (t6 P)) (nd o5 (nd o9 (nd o17 (nd o8 (lf o65) (lf o97)) (nd o7 (lf o81) (lf o113))) (nd o25 (nd (o41 P) t0 (lf o105)) (nd o8 (lf o89) (lf o121)))) (nd (o13 P) (nd (o21 P) (nd o37 (lf o69) (lf o101)) (nd o53 (lf o8) (lf o8))) (nd o29x3 (nd o45 t0 t0) (nd o61 (lf o93) .nil))))) (nd (o2 P) (nd o4 (nd o8 (nd o16 (nd o7 (lf o8) (lf o96)) (nd o48 t0 (lf (o112 P)))) (nd o24 (nd o40 (lf o72) (lf o104)) (nd o7 (lf o88) (lf o120)))) (nd o12 (nd (o20 P) (nd o36 (lf o68) (lf o100)) (nd o7 t0 t0)) (nd o7 (nd o44 (lf o76) (lf o108)) (nd o60 (lf o8) .nil)))) (nd o6 (nd o10 (nd o18 (nd o34 t0 (lf o98)) (nd o8 (lf o82) t0)) (nd o26 (nd o7 (lf o74) (lf o106)) (nd o58 (lf o90) (lf o122)))) (nd o14 (nd o22 (nd o38 t0 (lf o102)) (nd o54 (lf o86) (lf o118))) (nd o30 (nd o46 (lf o8) (lf o110)) (nd o62 t0 .nil)))))
@[irreducible] noncomputable def sh7 (P : Params) (os : OsState) : SharedT := ⟨tr7 P, 123, {}, #[], {}, 460, os⟩
@[irreducible] noncomputable def sts4 : List Stmt := [stAt pw 6]
theorem pc4 (os : OsState) (w : World) : bigH noHint pw w 4000 Γ1 (execs sts4 envT) ⟨63, 0, 63, 6⟩ (sh6 w.params os) = some (.ok .next, ⟨64, 0, 65, 30⟩, sh7 w.params os) := by kernel_rfl
@[irreducible] noncomputable def b3st : Stmt := stAt pw 7
@[irreducible] noncomputable def b3keys : List (Option Expr) := match b3st with | .Assign _ (.Dict ks _ _) _ => ks | _ => []
@[irreducible] noncomputable def b3vals : List Expr := match b3st with | .Assign _ (.Dict _ vs _) _ => vs | _ => []
@[irreducible] noncomputable def b3L : List (Int × Str) := (litsOf b3keys b3vals).getD []
@[irreducible] noncomputable def b3objs : List Obj := dobj (longE 38 b3L 460 ++ entS (b3L.drop 646) 2398) 650 :: (longS 37 (b3L.drop 17) 511 ++ [dobj (entS (b3L.drop 646) 2398) 4])
@[irreducible] noncomputable def b3x : Str := match b3st with | .Assign [.Name x _] _ _ => x | _ => Str.empty
@[irreducible] noncomputable def b3tp : Pos := match b3st with | .Assign [.Name _ p] _ _ => p | _ => default
@[irreducible] noncomputable def b3dp : Pos := match b3st with | .Assign _ (.Dict _ _ p) _ => p | _ => default
@[irreducible] noncomputable def b3ap : Pos := match b3st with | .Assign _ _ p => p | _ => default
noncomputable abbrev b3at : Nat := 123
noncomputable abbrev b3tk : Nat := 460
noncomputable abbrev b3n : Nat := 37
noncomputable abbrev b3len : Nat := 650
theorem b3_shape : b3st = .Assign [.Name b3x b3tp] (.Dict b3keys b3vals b3dp) b3ap := by kernel_rfl
theorem b3_lits : litsOf b3keys b3vals = some b3L := by kernel_rfl
theorem b3_len : b3L.length = b3len := by kernel_rfl
theorem b3_all : b3keys.all (·.isSome) = true := by kernel_rfl
theorem b3_same : b3keys.length = b3vals.length := by kernel_rfl
theorem b3_incr : incr (b3L.map (·.1)) = true := by kernel_rfl
@[irreducible] noncomputable def b3o (i : Nat) : Obj := b3objs.getD i default
@[irreducible] noncomputable def t7 : BT := nd o7 (nd o31 (nd o7 (lf (b3o 4)) .nil) (nd o95 (lf (b3o 36)) .nil)) (nd o7 (nd o79 (lf (b3o 20)) .nil) (lf o111))
@[irreducible] noncomputable def t8 : BT := nd o7 t7 (nd o23 (nd o7 (nd o8 (lf (b3o 12)) .nil) (lf o103)) (nd o55 (nd o7 (lf (b3o 28)) .nil) t0))
@[irreducible] noncomputable def t9 : BT := nd o27 (nd o43 (nd o75 (lf (b3o 16)) .nil) (lf o107)) (nd o7 (nd o7 (lf (b3o 32)) .nil) (lf (b3o 0)))
@[irreducible] noncomputable def t10 (P : Params) : BT := nd (o11x1 P) (nd o19 (nd o7 (nd o67 (lf (b3o 8)) .nil) (lf (o99 P))) (nd o51 (nd o83 (lf (b3o 24)) .nil) (lf o115))) t9
@[irreducible] noncomputable def t11 : BT := nd o17 (nd o8 (nd o65 (lf (b3o 6)) .nil) (nd o97 (lf (b3o 38)) .nil)) (nd o7 (nd o81 (lf (b3o 22)) .nil) (lf o113))
@[irreducible] noncomputable def t12 (P : Params) : BT := nd o9 t11 (nd o25 (nd (o41 P) (nd o7 (lf (b3o 14)) .nil) (lf o105)) (nd o8 (nd o89 (lf (b3o 30)) .nil) (lf o121)))
@[irreducible] noncomputable def t13 (P : Params) : BT := nd o5 (t12 P) (nd (o13 P) (nd (o21 P) (nd o37 (nd o69 (lf (b3o 10)) .nil) (lf o101)) (nd o53 (nd o8 (lf (b3o 26)) .nil) (lf o8))) (nd o29x3 (nd o45 (nd o7 (lf (b3o 18)) .nil) t0) (nd o61 (nd o93 (lf (b3o 34)) .nil) (lf (b3o 2)))))
@[irreducible] noncomputable def t14 (P : Params) : BT := nd o16 (nd o7 (nd o8 (lf (b3o 5)) .nil) (nd o96 (lf (b3o 37)) .nil)) (nd o48 (nd o7 (lf (b3o 21)) .nil) (lf (o112 P)))
@[irreducible] noncomputable def t15 : BT := nd o7 (nd o44 (nd o76 (lf (b3o 17)) .nil) (lf o108)) (nd o60 (nd o8 (lf (b3o 33)) .nil) (lf (b3o 1)))
@[irreducible] noncomputable def t16 : BT := nd o26 (nd o7 (nd o74 (lf (b3o 15)) .nil) (lf o106)) (nd o58 (nd o90 (lf (b3o 31)) .nil) (lf o122))
@[irreducible] noncomputable def t17 : BT := nd o30 (nd o46 (nd o8 (lf (b3o 19)) .nil) (lf o110)) (nd o62 (nd o7 (lf (b3o 35)) .nil) (lf (b3o 3)))
@[irreducible] noncomputable def t18 (P : Params) : BT := nd (o2 P) (nd o4 (nd o8 (t14 P) (nd o24 (nd o40 (nd o72 (lf (b3o 13)) .nil) (lf o104)) (nd o7 (nd o88 (lf (b3o 29)) .nil) (lf o120)))) (nd o12 (nd (o20 P) (nd o36 (nd o68 (lf (b3o 9)) .nil) (lf o100)) (nd o7 (nd o7 (lf (b3o 25)) .nil) t0)) t15)) (nd o6 (nd o10 (nd o18 (nd o34 (nd o7 (lf (b3o 7)) .nil) (lf o98)) (nd o8 (nd o82 (lf (b3o 23)) .nil) t0)) t16) (nd o14 (nd o22 (nd o38 (nd o7 (lf (b3o 11)) .nil) (lf o102)) (nd o54 (nd o86 (lf (b3o 27)) .nil) (lf o118))) t17))
@[irreducible] noncomputable def trm (P : Params) : BT := nd (o0 P) (nd (o1 P) (nd (o3x5 P) t8 (t10 P)) (t13 P)) (t18 P)
@[irreducible] noncomputable def shm (P : Params) (os : OsState) : SharedT := ⟨trm P, 162, {}, #[], {}, 2410, os⟩
@[irreducible] noncomputable def n36 (P : Params) : DictEntry := en P "b3_exceptions" 2410 (.ref 123)
@[irreducible] noncomputable def o3x6 (P : Params) : Obj := ⟨(.type "dict"), none, (.dict #[n33 P, n0 P, n1 P, n2 P, n3 P, n4 P, n5 P, n6 P, n7 P, n8 P, n19 P, n20 P, n34 P, n35 P, n36 P] 15), #[]⟩
@[irreducible] noncomputable def tr8 (P : Params) : BT := nd (o0 P) (nd (o1 P) (nd (o3x6 P) t8 (t10 P)) (t13 P)) (t18 P)
@[irreducible] noncomputable def sh8 (P : Params) (os : OsState) : SharedT := ⟨tr8 P, 162, {}, #[], {}, 2411, os⟩
theorem b3_tree (P : Params) : insL (tr7 P) b3at b3objs = trm P := by kernel_rfl
theorem b3_treeOk (P : Params) : insOk (tr7 P) b3at b3objs = true := by kernel_rfl
noncomputable abbrev b3pos : Pos := ⟨64, 0, 65, 30⟩
noncomputable abbrev b3posE : Pos := ⟨66, 0, 66, 13⟩
theorem store_big (w : World) (os : OsState) (q : Pos) : big pw w 400 Γ1 (do standAt b3tp; bindName envT b3x (.ref b3at); pure Flow.next) q (shm w.params os) = some (.ok .next, b3posE, sh8 w.params os) := by kernel_rfl
@[irreducible] noncomputable def sts5 : List Stmt := [stAt pw 7]
@[irreducible] noncomputable def n37 (P : Params) : DictEntry := en P "map_table_b3" 2418 (.ref 168)
@[irreducible] noncomputable def n38 (P : Params) : DictEntry := en P "LPAR" 2420 (.int 7 2419)
@[irreducible] noncomputable def n39 (P : Params) : DictEntry := en P "RPAR" 2422 (.int 8 2421)
@[irreducible] noncomputable def n40 (P : Params) : DictEntry := en P "LSQB" 2424 (.int 9 2423)
@[irreducible] noncomputable def n41 (P : Params) : DictEntry := en P "RSQB" 2426 (.int 10 2425)
@[irreducible] noncomputable def n42 (P : Params) : DictEntry := en P "COLON" 2428 (.int 11 2427)
@[irreducible] noncomputable def n43 (P : Params) : DictEntry := en P "COMMA" 2430 (.int 12 2429)
@[irreducible] noncomputable def n44 (P : Params) : DictEntry := en P "SEMI" 2432 (.int 13 2431)
@[irreducible] noncomputable def n45 (P : Params) : DictEntry := en P "PLUS" 2434 (.int 14 2433)
@[irreducible] noncomputable def n46 (P : Params) : DictEntry := en P "MINUS" 2436 (.int 15 2435)
@[irreducible] noncomputable def n47 (P : Params) : DictEntry := en P "STAR" 2438 (.int 16 2437)
@[irreducible] noncomputable def n48 (P : Params) : DictEntry := en P "SLASH" 2440 (.int 17 2439)
@[irreducible] noncomputable def n49 (P : Params) : DictEntry := en P "VBAR" 2442 (.int 18 2441)
@[irreducible] noncomputable def n50 (P : Params) : DictEntry := en P "AMPER" 2444 (.int 19 2443)
@[irreducible] noncomputable def n51 (P : Params) : DictEntry := en P "LESS" 2446 (.int 20 2445)
@[irreducible] noncomputable def n52 (P : Params) : DictEntry := en P "GREATER" 2448 (.int 21 2447)
@[irreducible] noncomputable def n53 (P : Params) : DictEntry := en P "EQUAL" 2450 (.int 22 2449)
@[irreducible] noncomputable def n54 (P : Params) : DictEntry := en P "DOT" 2452 (.int 23 2451)
@[irreducible] noncomputable def n55 (P : Params) : DictEntry := en P "PERCENT" 2454 (.int 24 2453)
@[irreducible] noncomputable def n56 (P : Params) : DictEntry := en P "LBRACE" 2456 (.int 25 2455)
@[irreducible] noncomputable def n57 (P : Params) : DictEntry := en P "RBRACE" 2458 (.int 26 2457)
@[irreducible] noncomputable def n58 (P : Params) : DictEntry := en P "EQEQUAL" 2460 (.int 27 2459)
@[irreducible] noncomputable def n59 (P : Params) : DictEntry := en P "NOTEQUAL" 2462 (.int 28 2461)
@[irreducible] noncomputable def n60 (P : Params) : DictEntry := en P "LESSEQUAL" 2464 (.int 29 2463)
@[irreducible] noncomputable def n61 (P : Params) : DictEntry := en P "GREATEREQUAL" 2466 (.int 30 2465)
@[irreducible] noncomputable def n62 (P : Params) : DictEntry := en P "TILDE" 2468 (.int 31 2467)
@[irreducible] noncomputable def n63 (P : Params) : DictEntry := en P "CIRCUMFLEX" 2470 (.int 32 2469)
@[irreducible] noncomputable def n64 (P : Params) : DictEntry := en P "LEFTSHIFT" 2472 (.int 33 2471)
@[irreducible] noncomputable def n65 (P : Params) : DictEntry := en P "RIGHTSHIFT" 2474 (.int 34 2473)
@[irreducible] noncomputable def n66 (P : Params) : DictEntry := en P "DOUBLESTAR" 2476 (.int 35 2475)
@[irreducible] noncomputable def n67 (P : Params) : DictEntry := en P "PLUSEQUAL" 2478 (.int 36 2477)
@[irreducible] noncomputable def n68 (P : Params) : DictEntry := en P "MINEQUAL" 2480 (.int 37 2479)
@[irreducible] noncomputable def n69 (P : Params) : DictEntry := en P "STAREQUAL" 2482 (.int 38 2481)
@[irreducible] noncomputable def n70 (P : Params) : DictEntry := en P "SLASHEQUAL" 2484 (.int 39 2483)
@[irreducible] noncomputable def n71 (P : Params) : DictEntry := en P "PERCENTEQUAL" 2486 (.int 40 2485)
@[irreducible] noncomputable def n72 (P : Params) : DictEntry := en P "AMPEREQUAL" 2488 (.int 41 2487)
@[irreducible] noncomputable def n73 (P : Params) : DictEntry := en P "VBAREQUAL" 2490 (.int 42 2489)
@[irreducible] noncomputable def n74 (P : Params) : DictEntry := en P "CIRCUMFLEXEQUAL" 2492 (.int 43 2491)
@[irreducible] noncomputable def n75 (P : Params) : DictEntry := en P "LEFTSHIFTEQUAL" 2494 (.int 44 2493)
@[irreducible] noncomputable def n76 (P : Params) : DictEntry := en P "RIGHTSHIFTEQUAL" 2496 (.int 45 2495)
@[irreducible] noncomputable def n77 (P : Params) : DictEntry := en P "DOUBLESTAREQUAL" 2498 (.int 46 2497)
@[irreducible] noncomputable def n78 (P : Params) : DictEntry := en P "DOUBLESLASH" 2500 (.int 47 2499)
@[irreducible] noncomputable def n79 (P : Params) : DictEntry := en P "DOUBLESLASHEQUAL" 2502 (.int 48 2501)
@[irreducible] noncomputable def n80 (P : Params) : DictEntry := en P "AT" 2504 (.int 49 2503)
@[irreducible] noncomputable def n81 (P : Params) : DictEntry := en P "ATEQUAL" 2506 (.int 50 2505)
@[irreducible] noncomputable def n82 (P : Params) : DictEntry := en P "RARROW" 2508 (.int 51 2507)
@[irreducible] noncomputable def n83 (P : Params) : DictEntry := en P "ELLIPSIS" 2510 (.int 52 2509)
@[irreducible] noncomputable def o3x7 (P : Params) : Obj := ⟨(.type "dict"), none, (.dict #[n33 P, n0 P, n1 P, n2 P, n3 P, n4 P, n5 P, n6 P, n7 P, n8 P, n19 P, n20 P, n34 P, n35 P, n36 P, n37 P, n38 P, n39 P, n40 P, n41 P, n42 P, n43 P, n44 P, n45 P, n46 P, n47 P, n48 P, n49 P, n50 P, n51 P, n52 P, n53 P, n54 P, n55 P, n56 P, n57 P, n58 P, n59 P, n60 P, n61 P, n62 P, n63 P, n64 P, n65 P, n66 P, n67 P, n68 P, n69 P, n70 P, n71 P, n72 P, n73 P, n74 P, n75 P, n76 P, n77 P, n78 P, n79 P, n80 P, n81 P, n82 P, n83 P] 62), #[]⟩
@[irreducible] noncomputable def o29x4 : Obj := fi #[(.int 2 0), (.int 0 0), (.ref 37), (.int 6 0), (.int 0 0), (.ref 44), (.int 64 0), (.int 0 0), (.ref 121), (.int 67 0), (.int 0 0), (.ref 167)]
@[irreducible] noncomputable def o164 : Obj := tu #[(.str "code" 2414), (.str "r" 2415)]
@[irreducible] noncomputable def o166 : Obj := fo (fu "map_table_b3" "map_table_b3" (stAt pw 8))
@[irreducible] noncomputable def o167 : Obj := co "map_table_b3" "map_table_b3" 2411 67 1 3 162 true 276 163 .none 164 165 166 2416 2417
@[irreducible] noncomputable def o168 : Obj := fx (fm "map_table_b3" "map_table_b3" (stAt pw 8) .none (.str "cpy313.stringprep" 391) (.ref 167))
@[irreducible] noncomputable def t19 : BT := nd o7 t7 (nd o23 (nd o7 (nd o8 (lf (b3o 12)) .nil) (nd o103 (lf o167) .nil)) (nd o55 (nd o7 (lf (b3o 28)) .nil) t0))
@[irreducible] noncomputable def t20 (P : Params) : BT := nd o19 (nd o7 (nd o67 (lf (b3o 8)) .nil) (nd (o99 P) (lf o8) .nil)) (nd o51 (nd o83 (lf (b3o 24)) .nil) (lf o115))
@[irreducible] noncomputable def t21 (P : Params) : BT := nd (o13 P) (nd (o21 P) (nd o37 (nd o69 (lf (b3o 10)) .nil) (nd o101 t0 .nil)) (nd o53 (nd o8 (lf (b3o 26)) .nil) (lf o8))) (nd o29x4 (nd o45 (nd o7 (lf (b3o 18)) .nil) t0) (nd o61 (nd o93 (lf (b3o 34)) .nil) (lf (b3o 2))))
@[irreducible] noncomputable def t22 (P : Params) : BT := nd o4 (nd o8 (t14 P) (nd o24 (nd o40 (nd o72 (lf (b3o 13)) .nil) (nd o104 (lf o168) .nil)) (nd o7 (nd o88 (lf (b3o 29)) .nil) (lf o120)))) (nd o12 (nd (o20 P) (nd o36 (nd o68 (lf (b3o 9)) .nil) (nd o100 (lf o164) .nil)) (nd o7 (nd o7 (lf (b3o 25)) .nil) t0)) t15)
@[irreducible] noncomputable def t23 : BT := nd o18 (nd o34 (nd o7 (lf (b3o 7)) .nil) (nd o98 t0 .nil)) (nd o8 (nd o82 (lf (b3o 23)) .nil) t0)
@[irreducible] noncomputable def t24 : BT := nd o14 (nd o22 (nd o38 (nd o7 (lf (b3o 11)) .nil) (nd o102 (lf o166) .nil)) (nd o54 (nd o86 (lf (b3o 27)) .nil) (lf o118))) t17
@[irreducible] noncomputable def tr9 (P : Params) : BT := nd (o0 P) (nd (o1 P) (nd (o3x7 P) t19 (nd (o11x1 P) (t20 P) t9)) (nd o5 (t12 P) (t21 P))) (nd (o2 P) (t22 P) (nd o6 (nd o10 t23 t16) t24))
@[irreducible] noncomputable def sh9 (P : Params) (os : OsState) : SharedT := ⟨tr9 P, 169, {}, #[], {}, 2511, os⟩
@[irreducible] noncomputable def sts6 : List Stmt := [stAt pw 8, stAt pw 9, stAt pw 10, stAt pw 11, stAt pw 12, stAt pw 13, stAt pw 14, stAt pw 15, stAt pw 16, stAt pw 17, stAt pw 18, stAt pw 19, stAt pw 20, stAt pw 21, stAt pw 22, stAt pw 23, stAt pw 24, stAt pw 25, stAt pw 26, stAt pw 27, stAt pw 28, stAt pw 29, stAt pw 30, stAt pw 31, stAt pw 32, stAt pw 33, stAt pw 34, stAt pw 35, stAt pw 36, stAt pw 37, stAt pw 38, stAt pw 39, stAt pw 40, stAt pw 41, stAt pw 42, stAt pw 43, stAt pw 44, stAt pw 45, stAt pw 46, stAt pw 47, stAt pw 48, stAt pw 49, stAt pw 50, stAt pw 51, stAt pw 52, stAt pw 53, stAt pw 54]
theorem pc6 (os : OsState) (w : World) (q : Pos) : bigH noHint pw w 4000 Γ1 (execs sts6 envT) q (sh8 w.params os) = some (.ok .next, ⟨117, 0, 117, 8⟩, sh9 w.params os) := by kernel_rfl
@[irreducible] noncomputable def n84 (P : Params) : DictEntry := en P "COLONEQUAL" 2512 (.int 53 2511)
@[irreducible] noncomputable def n85 (P : Params) : DictEntry := en P "EXCLAMATION" 2514 (.int 54 2513)
@[irreducible] noncomputable def o3x8 (P : Params) : Obj := ⟨(.type "dict"), none, (.dict #[n33 P, n0 P, n1 P, n2 P, n3 P, n4 P, n5 P, n6 P, n7 P, n8 P, n19 P, n20 P, n34 P, n35 P, n36 P, n37 P, n38 P, n39 P, n40 P, n41 P, n42 P, n43 P, n44 P, n45 P, n46 P, n47 P, n48 P, n49 P, n50 P, n51 P, n52 P, n53 P, n54 P, n55 P, n56 P, n57 P, n58 P, n59 P, n60 P, n61 P, n62 P, n63 P, n64 P, n65 P, n66 P, n67 P, n68 P, n69 P, n70 P, n71 P, n72 P, n73 P, n74 P, n75 P, n76 P, n77 P, n78 P, n79 P, n80 P, n81 P, n82 P, n83 P, n84 P, n85 P] 64), #[]⟩
@[irreducible] noncomputable def tr10 (P : Params) : BT := nd (o0 P) (nd (o1 P) (nd (o3x8 P) t19 (nd (o11x1 P) (t20 P) t9)) (nd o5 (t12 P) (t21 P))) (nd (o2 P) (t22 P) (nd o6 (nd o10 t23 t16) t24))
@[irreducible] noncomputable def sh10 (P : Params) (os : OsState) : SharedT := ⟨tr10 P, 169, {}, #[], {}, 2515, os⟩
@[irreducible] noncomputable def sts7 : List Stmt := [stAt pw 55, stAt pw 56]
theorem pc7 (os : OsState) (w : World) : bigH noHint pw w 4000 Γ1 (execs sts7 envT) ⟨117, 0, 117, 8⟩ (sh9 w.params os) = some (.ok .next, ⟨119, 0, 119, 11⟩, sh10 w.params os) := by kernel_rfl
@[irreducible] noncomputable def n86 (P : Params) : DictEntry := en P "EXACT_TOKEN_TYPES" 2611 (.ref 169)
@[irreducible] noncomputable def o3x9 (P : Params) : Obj := ⟨(.type "dict"), none, (.dict #[n33 P, n0 P, n1 P, n2 P, n3 P, n4 P, n5 P, n6 P, n7 P, n8 P, n19 P, n20 P, n34 P, n35 P, n36 P, n37 P, n38 P, n39 P, n40 P, n41 P, n42 P, n43 P, n44 P, n45 P, n46 P, n47 P, n48 P, n49 P, n50 P, n51 P, n52 P, n53 P, n54 P, n55 P, n56 P, n57 P, n58 P, n59 P, n60 P, n61 P, n62 P, n63 P, n64 P, n65 P, n66 P, n67 P, n68 P, n69 P, n70 P, n71 P, n72 P, n73 P, n74 P, n75 P, n76 P, n77 P, n78 P, n79 P, n80 P, n81 P, n82 P, n83 P, n84 P, n85 P, n86 P] 65), #[]⟩
@[irreducible] noncomputable def n87 (P : Params) : DictEntry := en P "->" 2549 (.int 51 2507)
@[irreducible] noncomputable def n88 (P : Params) : DictEntry := en P "." 2551 (.int 23 2451)
@[irreducible] noncomputable def n89 (P : Params) : DictEntry := en P "..." 2553 (.int 52 2509)
@[irreducible] noncomputable def n90 (P : Params) : DictEntry := en P "/" 2555 (.int 17 2439)
@[irreducible] noncomputable def n91 (P : Params) : DictEntry := en P "//" 2557 (.int 47 2499)
@[irreducible] noncomputable def n92 (P : Params) : DictEntry := en P "//=" 2559 (.int 48 2501)
@[irreducible] noncomputable def n93 (P : Params) : DictEntry := en P "/=" 2561 (.int 39 2483)
@[irreducible] noncomputable def n94 (P : Params) : DictEntry := en P ":" 2563 (.int 11 2427)
@[irreducible] noncomputable def n95 (P : Params) : DictEntry := en P ":=" 2565 (.int 53 2511)
@[irreducible] noncomputable def n96 (P : Params) : DictEntry := en P ";" 2567 (.int 13 2431)
@[irreducible] noncomputable def n97 (P : Params) : DictEntry := en P "<" 2569 (.int 20 2445)
@[irreducible] noncomputable def n98 (P : Params) : DictEntry := en P "<<" 2571 (.int 33 2471)
@[irreducible] noncomputable def n99 (P : Params) : DictEntry := en P "<<=" 2573 (.int 44 2493)
@[irreducible] noncomputable def n100 (P : Params) : DictEntry := en P "<=" 2575 (.int 29 2463)
@[irreducible] noncomputable def n101 (P : Params) : DictEntry := en P "=" 2577 (.int 22 2449)
@[irreducible] noncomputable def n102 (P : Params) : DictEntry := en P "==" 2579 (.int 27 2459)
@[irreducible] noncomputable def n103 (P : Params) : DictEntry := en P ">" 2581 (.int 21 2447)
@[irreducible] noncomputable def n104 (P : Params) : DictEntry := en P ">=" 2583 (.int 30 2465)
@[irreducible] noncomputable def n105 (P : Params) : DictEntry := en P ">>" 2584 (.int 34 2473)
@[irreducible] noncomputable def n106 (P : Params) : DictEntry := en P ">>=" 2585 (.int 45 2495)
@[irreducible] noncomputable def n107 (P : Params) : DictEntry := en P "@" 2586 (.int 49 2503)
@[irreducible] noncomputable def n108 (P : Params) : DictEntry := en P "@=" 2587 (.int 50 2505)
@[irreducible] noncomputable def n109 (P : Params) : DictEntry := en P "[" 2588 (.int 9 2423)
@[irreducible] noncomputable def n110 (P : Params) : DictEntry := en P "]" 2589 (.int 10 2425)
@[irreducible] noncomputable def n111 (P : Params) : DictEntry := en P "^" 2590 (.int 32 2469)
@[irreducible] noncomputable def n112 (P : Params) : DictEntry := en P "^=" 2591 (.int 43 2491)
@[irreducible] noncomputable def n113 (P : Params) : DictEntry := en P "{" 2592 (.int 25 2455)
@[irreducible] noncomputable def n114 (P : Params) : DictEntry := en P "|" 2593 (.int 18 2441)
@[irreducible] noncomputable def n115 (P : Params) : DictEntry := en P "|=" 2594 (.int 42 2489)
@[irreducible] noncomputable def n116 (P : Params) : DictEntry := en P "}" 2595 (.int 26 2457)
@[irreducible] noncomputable def n117 (P : Params) : DictEntry := en P "~" 2596 (.int 31 2467)
@[irreducible] noncomputable def o169 (P : Params) : Obj := ⟨(.type "dict"), none, (.dict #[(en P "!" 2515 (.int 54 2513)), (en P "!=" 2517 (.int 28 2461)), (en P "%" 2519 (.int 24 2453)), (en P "%=" 2521 (.int 40 2485)), (en P "&" 2523 (.int 19 2443)), (en P "&=" 2525 (.int 41 2487)), (en P "(" 2527 (.int 7 2419)), (en P ")" 2529 (.int 8 2421)), (en P "*" 2531 (.int 16 2437)), (en P "**" 2533 (.int 35 2475)), (en P "**=" 2535 (.int 46 2497)), (en P "*=" 2537 (.int 38 2481)), (en P "+" 2539 (.int 14 2433)), (en P "+=" 2541 (.int 36 2477)), (en P "," 2543 (.int 12 2429)), (en P "-" 2545 (.int 15 2435)), (en P "-=" 2547 (.int 37 2479)), n87 P, n88 P, n89 P, n90 P, n91 P, n92 P, n93 P, n94 P, n95 P, n96 P, n97 P, n98 P, n99 P, n100 P, n101 P, n102 P, n103 P, n104 P, n105 P, n106 P, n107 P, n108 P, n109 P, n110 P, n111 P, n112 P, n113 P, n114 P, n115 P, n116 P, n117 P] 48), #[]⟩
@[irreducible] noncomputable def o170 (P : Params) : Obj := ⟨(.type "dict"), none, (.dict #[n87 P, n88 P, n89 P, n90 P, n91 P, n92 P, n93 P, n94 P, n95 P, n96 P, n97 P, n98 P, n99 P, n100 P, n101 P, n102 P, n103 P] 17), #[]⟩
@[irreducible] noncomputable def o171 (P : Params) : Obj := ⟨(.type "dict"), none, (.dict #[n104 P, n105 P, n106 P, n107 P, n108 P, n109 P, n110 P, n111 P, n112 P, n113 P, n114 P, n115 P, n116 P, n117 P] 14), #[]⟩
@[irreducible] noncomputable def tr11 (P : Params) : BT := nd (o0 P) (nd (o1 P) (nd (o3x9 P) t19 (nd (o11x1 P) (t20 P) (nd o27 (nd o43 (nd o75 (lf (b3o 16)) .nil) (nd o107 (lf (o171 P)) .nil)) (nd o7 (nd o7 (lf (b3o 32)) .nil) (lf (b3o 0)))))) (nd o5 (nd o9 t11 (nd o25 (nd (o41 P) (nd o7 (lf (b3o 14)) .nil) (nd o105 (lf (o169 P)) .nil)) (nd o8 (nd o89 (lf (b3o 30)) .nil) (lf o121)))) (t21 P))) (nd (o2 P) (t22 P) (nd o6 (nd o10 t23 (nd o26 (nd o7 (nd o74 (lf (b3o 15)) .nil) (nd o106 (lf (o170 P)) .nil)) (nd o58 (nd o90 (lf (b3o 31)) .nil) (lf o122)))) t24))
@[irreducible] noncomputable def sh11 (P : Params) (os : OsState) : SharedT := ⟨tr11 P, 172, {}, #[], {}, 2612, os⟩
@[irreducible] noncomputable def sts8 : List Stmt := [stAt pw 57]
theorem pc8 (os : OsState) : ∀ w : World, bigH noHint pw w 4000 Γ1 (execs sts8 envT) ⟨119, 0, 119, 11⟩ (sh10 w.params os) = some (.ok .next, ⟨120, 0, 120, 17⟩, sh11 w.params os) := byRow2 "special-get-raises" (fun w => by kernel_rfl) (fun w => by kernel_rfl)
@[irreducible] noncomputable def n118 (P : Params) : DictEntry := en P "__name__" 165 (.str "cpy313.wsgiref.headers" 2612)
@[irreducible] noncomputable def n119 (P : Params) : DictEntry := en P "tspecials" 2647 (.ref 176)
@[irreducible] noncomputable def n120 (P : Params) : DictEntry := en P "_name_disallowed_re" 2673 (.ref 181)
@[irreducible] noncomputable def n121 (P : Params) : DictEntry := en P "_value_disallowed_re" 2707 (.ref 186)
@[irreducible] noncomputable def n122 (P : Params) : DictEntry := en P "_formatparam" 2717 (.ref 194)
@[irreducible] noncomputable def o3x10 (P : Params) : Obj := ⟨(.type "dict"), none, (.dict #[n118 P, n0 P, n1 P, n2 P, n3 P, n4 P, n5 P, n6 P, n7 P, n8 P, n19 P, n20 P, n34 P, n35 P, n36 P, n37 P, n38 P, n39 P, n40 P, n41 P, n42 P, n43 P, n44 P, n45 P, n46 P, n47 P, n48 P, n49 P, n50 P, n51 P, n52 P, n53 P, n54 P, n55 P, n56 P, n57 P, n58 P, n59 P, n60 P, n61 P, n62 P, n63 P, n64 P, n65 P, n66 P, n67 P, n68 P, n69 P, n70 P, n71 P, n72 P, n73 P, n74 P, n75 P, n76 P, n77 P, n78 P, n79 P, n80 P, n81 P, n82 P, n83 P, n84 P, n85 P, n86 P, n119 P, n120 P, n121 P, n122 P] 69), #[]⟩
@[irreducible] noncomputable def o29x5 : Obj := fi #[(.int 2 0), (.int 0 0), (.ref 37), (.int 6 0), (.int 0 0), (.ref 44), (.int 64 0), (.int 0 0), (.ref 121), (.int 67 0), (.int 0 0), (.ref 167), (.int 125 0), (.int 0 0), (.ref 193)]
@[irreducible] noncomputable def o172 : Obj := ⟨(.type "list"), none, (.seq #[(.int 14 2617), (.int 14 2618), (.int 4 2619), (.int 1 2620), (.int 1 2621), (.int 9 2622), (.int 0 2623), (.int 4227896069 2624), (.int 939524097 2625), (.int 0 2626), (.int 0 2627), (.int 0 2628), (.int 0 2629), (.int 0 2630), (.int 0 2631), (.int 13 2632), (.int 11 2633), (.int 9 2634), (.int 0 2635), (.int 4227896069 2636), (.int 939524097 2637), (.int 0 2638), (.int 0 2639), (.int 0 2640), (.int 0 2641), (.int 0 2642), (.int 0 2643), (.int 1 2644)] 0), #[]⟩
@[irreducible] noncomputable def o174 : Obj := tu #[.none]
@[irreducible] noncomputable def o175 : Obj := tu #[(.int 14 0), (.int 14 0), (.int 4 0), (.int 1 0), (.int 1 0), (.int 9 0), (.int 0 0), (.int 4227896069 0), (.int 939524097 0), (.int 0 0), (.int 0 0), (.int 0 0), (.int 0 0), (.int 0 0), (.int 0 0), (.int 13 0), (.int 11 0), (.int 9 0), (.int 0 0), (.int 4227896069 0), (.int 939524097 0), (.int 0 0), (.int 0 0), (.int 0 0), (.int 0 0), (.int 0 0), (.int 0 0), (.int 1 0)]
@[irreducible] noncomputable def o176 : Obj := ⟨(.type "re.Pattern"), none, (.fields #[(.str "[ \\(\\)<>@,;:\\\\\"/\\[\\]\\?=]" 2615), (.int 32 2646), (.int 0 0), .none, .none, (.ref 175), (.int 0 0)]), #[]⟩
@[irreducible] noncomputable def o177 : Obj := ⟨(.type "list"), none, (.seq #[(.int 14 2651), (.int 10 2652), (.int 4 2653), (.int 1 2654), (.int 1 2655), (.int 22 2656), (.int 0 2657), (.int 31 2658), (.int 16 2659), (.int 127 2660), (.int 0 2661), (.int 13 2662), (.int 7 2663), (.int 22 2664), (.int 0 2665), (.int 31 2666), (.int 16 2667), (.int 127 2668), (.int 0 2669), (.int 1 2670)] 0), #[]⟩
@[irreducible] noncomputable def o180 : Obj := tu #[(.int 14 0), (.int 10 0), (.int 4 0), (.int 1 0), (.int 1 0), (.int 22 0), (.int 0 0), (.int 31 0), (.int 16 0), (.int 127 0), (.int 0 0), (.int 13 0), (.int 7 0), (.int 22 0), (.int 0 0), (.int 31 0), (.int 16 0), (.int 127 0), (.int 0 0), (.int 1 0)]
@[irreducible] noncomputable def o181 : Obj := ⟨(.type "re.Pattern"), none, (.fields #[(.str "[\\x00-\\x1F\\x7F]" 2649), (.int 32 2672), (.int 0 0), .none, .none, (.ref 180), (.int 0 0)]), #[]⟩
@[irreducible] noncomputable def o182 : Obj := ⟨(.type "list"), none, (.seq #[(.int 14 2677), (.int 14 2678), (.int 4 2679), (.int 1 2680), (.int 1 2681), (.int 9 2682), (.int 4294966783 2683), (.int 0 2684), (.int 0 2685), (.int 2147483648 2686), (.int 0 2687), (.int 0 2688), (.int 0 2689), (.int 0 2690), (.int 0 2691), (.int 13 2692), (.int 11 2693), (.int 9 2694), (.int 4294966783 2695), (.int 0 2696), (.int 0 2697), (.int 2147483648 2698), (.int 0 2699), (.int 0 2700), (.int 0 2701), (.int 0 2702), (.int 0 2703), (.int 1 2704)] 0), #[]⟩
@[irreducible] noncomputable def o185 : Obj := tu #[(.int 14 0), (.int 14 0), (.int 4 0), (.int 1 0), (.int 1 0), (.int 9 0), (.int 4294966783 0), (.int 0 0), (.int 0 0), (.int 2147483648 0), (.int 0 0), (.int 0 0), (.int 0 0), (.int 0 0), (.int 0 0), (.int 13 0), (.int 11 0), (.int 9 0), (.int 4294966783 0), (.int 0 0), (.int 0 0), (.int 2147483648 0), (.int 0 0), (.int 0 0), (.int 0 0), (.int 0 0), (.int 0 0), (.int 1 0)]
@[irreducible] noncomputable def o186 : Obj := ⟨(.type "re.Pattern"), none, (.fields #[(.str "[\\x00-\\x08\\x0A-\\x1F\\x7F]" 2675), (.int 32 2706), (.int 0 0), .none, .none, (.ref 185), (.int 0 0)]), #[]⟩
@[irreducible] noncomputable def o187 : Obj := tu #[.none, (.int 1 2708)]
@[irreducible] noncomputable def o190 : Obj := tu #[(.str "param" 2712), (.str "value" 2713), (.str "quote" 2714)]
@[irreducible] noncomputable def o192 : Obj := fo (fu "_formatparam" "_formatparam" (stAt pw 62))
@[irreducible] noncomputable def o193 : Obj := co "_formatparam" "_formatparam" 2709 125 3 3 188 true 276 189 .none 190 191 192 2715 2716
@[irreducible] noncomputable def o194 : Obj := fx (fm "_formatparam" "_formatparam" (stAt pw 62) (.ref 187) (.str "cpy313.wsgiref.headers" 2612) (.ref 193))
@[irreducible] noncomputable def tr12 (P : Params) : BT := nd (o0 P) (nd (o1 P) (nd (o3x10 P) (nd o7 (nd o7 (nd o31 (nd o7 (lf (b3o 4)) t0) (nd o95 (lf (b3o 36)) .nil)) (nd o7 (nd o79 (lf (b3o 20)) .nil) (nd o111 (lf o175) .nil))) (nd o23 (nd o7 (nd o8 (lf (b3o 12)) .nil) (nd o103 (lf o167) .nil)) (nd o55 (nd o7 (lf (b3o 28)) .nil) (nd o7 (lf o6) .nil)))) (nd (o11x1 P) (nd o19 (nd o7 (nd o67 (lf (b3o 8)) .nil) (nd (o99 P) (lf o8) .nil)) (nd o51 (nd o83 (lf (b3o 24)) .nil) (nd o115 (lf o174) .nil))) (nd o27 (nd o43 (nd o75 (lf (b3o 16)) .nil) (nd o107 (lf (o171 P)) .nil)) (nd o7 (nd o7 (lf (b3o 32)) .nil) (nd (b3o 0) (lf o187) .nil))))) (nd o5 (nd o9 (nd o17 (nd o8 (nd o65 (lf (b3o 6)) (lf o193)) (nd o97 (lf (b3o 38)) .nil)) (nd o7 (nd o81 (lf (b3o 22)) .nil) (nd o113 (lf o177) .nil))) (nd o25 (nd (o41 P) (nd o7 (lf (b3o 14)) .nil) (nd o105 (lf (o169 P)) .nil)) (nd o8 (nd o89 (lf (b3o 30)) .nil) (nd o121 (lf o185) .nil)))) (nd (o13 P) (nd (o21 P) (nd o37 (nd o69 (lf (b3o 10)) .nil) (nd o101 t0 .nil)) (nd o53 (nd o8 (lf (b3o 26)) .nil) (nd o8 (lf o181) .nil))) (nd o29x5 (nd o45 (nd o7 (lf (b3o 18)) .nil) (nd o7 (lf o6) .nil)) (nd o61 (nd o93 (lf (b3o 34)) .nil) (nd (b3o 2) (lf o8) .nil)))))) (nd (o2 P) (nd o4 (nd o8 (nd o16 (nd o7 (nd o8 (lf (b3o 5)) (lf o192)) (nd o96 (lf (b3o 37)) .nil)) (nd o48 (nd o7 (lf (b3o 21)) .nil) (nd (o112 P) (lf o176) .nil))) (nd o24 (nd o40 (nd o72 (lf (b3o 13)) .nil) (nd o104 (lf o168) .nil)) (nd o7 (nd o88 (lf (b3o 29)) .nil) (nd o120 (lf o174) .nil)))) (nd o12 (nd (o20 P) (nd o36 (nd o68 (lf (b3o 9)) .nil) (nd o100 (lf o164) .nil)) (nd o7 (nd o7 (lf (b3o 25)) .nil) (nd o7 (lf o180) .nil))) (nd o7 (nd o44 (nd o76 (lf (b3o 17)) .nil) (nd o108 (lf o172) .nil)) (nd o60 (nd o8 (lf (b3o 33)) .nil) (nd (b3o 1) t0 .nil))))) (nd o6 (nd o10 (nd o18 (nd o34 (nd o7 (lf (b3o 7)) (lf o194)) (nd o98 t0 .nil)) (nd o8 (nd o82 (lf (b3o 23)) .nil) (nd o7 (lf o6) .nil))) (nd o26 (nd o7 (nd o74 (lf (b3o 15)) .nil) (nd o106 (lf (o170 P)) .nil)) (nd o58 (nd o90 (lf (b3o 31)) .nil) (nd o122 (lf o186) .nil)))) (nd o14 (nd o22 (nd o38 (nd o7 (lf (b3o 11)) .nil) (nd o102 (lf o166) .nil)) (nd o54 (nd o86 (lf (b3o 27)) .nil) (nd o118 (lf o182) .nil))) (nd o30 (nd o46 (nd o8 (lf (b3o 19)) .nil) (nd o110 (lf o174) .nil)) (nd o62 (nd o7 (lf (b3o 35)) .nil) (nd (b3o 3) (lf o190) .nil))))))
@[irreducible] noncomputable def sh12 (P : Params) (os : OsState) : SharedT := ⟨tr12 P, 195, {}, #[], {}, 2718, os⟩
@[irreducible] noncomputable def sts9 : List Stmt := [stAt pw 58, stAt pw 59, stAt pw 60, stAt pw 61, stAt pw 62]
theorem pc9 (os : OsState) (w : World) : bigH noHint pw w 4000 Γ1 (execs sts9 envT) ⟨120, 0, 120, 17⟩ (sh11 w.params os) = some (.ok .next, ⟨125, 0, 133, 20⟩, sh12 w.params os) := by kernel_rfl
@[irreducible] noncomputable def n123 (P : Params) : DictEntry := en P "Headers" 2874 (.ref 315)
@[irreducible] noncomputable def o3x11 (P : Params) : Obj := ⟨(.type "dict"), none, (.dict #[n118 P, n0 P, n1 P, n2 P, n3 P, n4 P, n5 P, n6 P, n7 P, n8 P, n19 P, n20 P, n34 P, n35 P, n36 P, n37 P, n38 P, n39 P, n40 P, n41 P, n42 P, n43 P, n44 P, n45 P, n46 P, n47 P, n48 P, n49 P, n50 P, n51 P, n52 P, n53 P, n54 P, n55 P, n56 P, n57 P, n58 P, n59 P, n60 P, n61 P, n62 P, n63 P, n64 P, n65 P, n66 P, n67 P, n68 P, n69 P, n70 P, n71 P, n72 P, n73 P, n74 P, n75 P, n76 P, n77 P, n78 P, n79 P, n80 P, n81 P, n82 P, n83 P, n84 P, n85 P, n86 P, n119 P, n120 P, n121 P, n122 P, n123 P] 70), #[]⟩
@[irreducible] noncomputable def o29x6 : Obj := fi #[(.int 2 0), (.int 0 0), (.ref 37), (.int 6 0), (.int 0 0), (.ref 44), (.int 64 0), (.int 0 0), (.ref 121), (.int 67 0), (.int 0 0), (.ref 167), (.int 125 0), (.int 0 0), (.ref 193), (.int 134 0), (.int 0 0), (.ref 200)]
@[irreducible] noncomputable def n124 (P : Params) : DictEntry := en P "__module__" 2725 (.str "cpy313.wsgiref.headers" 2612)
@[irreducible] noncomputable def n125 (P : Params) : DictEntry := en P "__firstlineno__" 2729 (.int 134 2728)
@[irreducible] noncomputable def n126 (P : Params) : DictEntry := en P "__init__" 2739 (.ref 209)
@[irreducible] noncomputable def n127 (P : Params) : DictEntry := en P "_convert_string_type" 2749 (.ref 216)
@[irreducible] noncomputable def n128 (P : Params) : DictEntry := en P "__len__" 2756 (.ref 223)
@[irreducible] noncomputable def n129 (P : Params) : DictEntry := en P "__setitem__" 2765 (.ref 230)
@[irreducible] noncomputable def n130 (P : Params) : DictEntry := en P "__delitem__" 2771 (.ref 235)
@[irreducible] noncomputable def n131 (P : Params) : DictEntry := en P "__getitem__" 2779 (.ref 242)
@[irreducible] noncomputable def n132 (P : Params) : DictEntry := en P "__contains__" 2787 (.ref 249)
@[irreducible] noncomputable def n133 (P : Params) : DictEntry := en P "get_all" 2793 (.ref 254)
@[irreducible] noncomputable def n134 (P : Params) : DictEntry := en P "get" 2804 (.ref 262)
@[irreducible] noncomputable def n135 (P : Params) : DictEntry := en P "keys" 2810 (.ref 267)
@[irreducible] noncomputable def n136 (P : Params) : DictEntry := en P "values" 2816 (.ref 272)
@[irreducible] noncomputable def n137 (P : Params) : DictEntry := en P "items" 2823 (.ref 279)
@[irreducible] noncomputable def n138 (P : Params) : DictEntry := en P "__repr__" 2830 (.ref 286)
@[irreducible] noncomputable def n139 (P : Params) : DictEntry := en P "__str__" 2836 (.ref 291)
@[irreducible] noncomputable def n140 (P : Params) : DictEntry := en P "__bytes__" 2843 (.ref 298)
@[irreducible] noncomputable def n141 (P : Params) : DictEntry := en P "setdefault" 2852 (.ref 305)
@[irreducible] noncomputable def n142 (P : Params) : DictEntry := en P "add_header" 2865 (.ref 312)
@[irreducible] noncomputable def n143 (P : Params) : DictEntry := en P "__static_attributes__" 2867 (.ref 313)
@[irreducible] noncomputable def o197 (P : Params) : Obj := ⟨(.type "dict"), none, (.dict #[n124 P, (en P "__qualname__" 2727 (.str "Headers" 2726)), n125 P, n126 P, n127 P, n128 P, n129 P, n130 P, n131 P, n132 P, n133 P, n134 P, n135 P, n136 P, n137 P, n138 P, n139 P, n140 P, n141 P, n142 P, n143 P] 21), #[]⟩
@[irreducible] noncomputable def o199 : Obj := fi #[(.int 136 0), (.int 4 0), (.ref 208), (.int 146 0), (.int 4 0), (.ref 215), (.int 154 0), (.int 4 0), (.ref 222), (.int 157 0), (.int 4 0), (.ref 229), (.int 161 0), (.int 4 0), (.ref 234), (.int 165 0), (.int 4 0), (.ref 241), (.int 168 0), (.int 4 0), (.ref 248), (.int 171 0), (.int 4 0), (.ref 253), (.int 175 0), (.int 4 0), (.ref 261), (.int 182 0), (.int 4 0), (.ref 266), (.int 185 0), (.int 4 0), (.ref 271), (.int 188 0), (.int 4 0), (.ref 278), (.int 191 0), (.int 4 0), (.ref 285), (.int 194 0), (.int 4 0), (.ref 290), (.int 197 0), (.int 4 0), (.ref 297), (.int 200 0), (.int 4 0), (.ref 304), (.int 203 0), (.int 4 0), (.ref 311)]
@[irreducible] noncomputable def o200 : Obj := cg "Headers" "Headers" 2720 134 0 0 0 0 198 false 276 199 .none .none .none .none 2723
@[irreducible] noncomputable def o201 : Obj := ⟨(.type "frame"), none, .plain, #[(some (.ref 200)), (some (.ref 3)), (some (.ref 197)), none, (some (.str "cpy313.wsgiref.headers" 2612)), none, (some (.ref 0))]⟩
@[irreducible] noncomputable def o205 : Obj := tu #[(.str "self" 2733), (.str "headers" 2734), (.str "k" 2735), (.str "v" 2736)]
@[irreducible] noncomputable def o207 : Obj := fo (fu "__init__" "Headers.__init__" (mtAt pw 63 0))
@[irreducible] noncomputable def o208 : Obj := co "__init__" "Headers.__init__" 2730 136 2 3 203 true 276 204 .none 205 206 207 2737 2738
@[irreducible] noncomputable def o209 : Obj := fx (fm "__init__" "Headers.__init__" (mtAt pw 63 0) (.ref 202) (.str "cpy313.wsgiref.headers" 2612) (.ref 208))
@[irreducible] noncomputable def o212 : Obj := tu #[(.str "self" 2743), (.str "value" 2744), (.str "name" 2745), (.str "regex" 2746)]
@[irreducible] noncomputable def o214 : Obj := fo (fu "_convert_string_type" "Headers._convert_string_type" (mtAt pw 63 1))
@[irreducible] noncomputable def o215 : Obj := cg "_convert_string_type" "Headers._convert_string_type" 2740 146 2 0 1 3 210 true 276 211 .none (.ref 212) (.ref 213) (.ref 214) 2747
@[irreducible] noncomputable def o216 : Obj := fx (fm "_convert_string_type" "Headers._convert_string_type" (mtAt pw 63 1) .none (.str "cpy313.wsgiref.headers" 2612) (.ref 215))
@[irreducible] noncomputable def o219 : Obj := tu #[(.str "self" 2753)]
@[irreducible] noncomputable def o221 : Obj := fo (fu "__len__" "Headers.__len__" (mtAt pw 63 2))
@[irreducible] noncomputable def o222 : Obj := co "__len__" "Headers.__len__" 2750 154 1 3 217 true 276 218 .none 219 220 221 2754 2755
@[irreducible] noncomputable def o223 : Obj := fx (fm "__len__" "Headers.__len__" (mtAt pw 63 2) .none (.str "cpy313.wsgiref.headers" 2612) (.ref 222))
@[irreducible] noncomputable def o226 : Obj := tu #[(.str "self" 2760), (.str "name" 2761), (.str "val" 2762)]
@[irreducible] noncomputable def o228 : Obj := fo (fu "__setitem__" "Headers.__setitem__" (mtAt pw 63 3))
@[irreducible] noncomputable def o229 : Obj := co "__setitem__" "Headers.__setitem__" 2757 157 3 3 224 true 276 225 .none 226 227 228 2763 2764
@[irreducible] noncomputable def o230 : Obj := fx (fm "__setitem__" "Headers.__setitem__" (mtAt pw 63 3) .none (.str "cpy313.wsgiref.headers" 2612) (.ref 229))
@[irreducible] noncomputable def o233 : Obj := fo (fu "__delitem__" "Headers.__delitem__" (mtAt pw 63 4))
@[irreducible] noncomputable def o234 : Obj := cg "__delitem__" "Headers.__delitem__" 2766 161 2 0 0 3 231 true 276 232 .none .none .none (.ref 233) 2769
@[irreducible] noncomputable def o235 : Obj := fx (fm "__delitem__" "Headers.__delitem__" (mtAt pw 63 4) .none (.str "cpy313.wsgiref.headers" 2612) (.ref 234))
@[irreducible] noncomputable def o238 : Obj := tu #[(.str "self" 2775), (.str "name" 2776)]
@[irreducible] noncomputable def o240 : Obj := fo (fu "__getitem__" "Headers.__getitem__" (mtAt pw 63 5))
@[irreducible] noncomputable def o241 : Obj := co "__getitem__" "Headers.__getitem__" 2772 165 2 3 236 true 276 237 .none 238 239 240 2777 2778
@[irreducible] noncomputable def o242 : Obj := fx (fm "__getitem__" "Headers.__getitem__" (mtAt pw 63 5) .none (.str "cpy313.wsgiref.headers" 2612) (.ref 241))
@[irreducible] noncomputable def o245 : Obj := tu #[(.str "self" 2783), (.str "name" 2784)]
@[irreducible] noncomputable def o247 : Obj := fo (fu "__contains__" "Headers.__contains__" (mtAt pw 63 6))
@[irreducible] noncomputable def o248 : Obj := co "__contains__" "Headers.__contains__" 2780 168 2 3 243 true 276 244 .none 245 246 247 2785 2786
@[irreducible] noncomputable def o249 : Obj := fx (fm "__contains__" "Headers.__contains__" (mtAt pw 63 6) .none (.str "cpy313.wsgiref.headers" 2612) (.ref 248))
@[irreducible] noncomputable def o252 : Obj := fo (fu "get_all" "Headers.get_all" (mtAt pw 63 7))
@[irreducible] noncomputable def o253 : Obj := cg "get_all" "Headers.get_all" 2788 171 2 0 0 3 250 true 276 251 .none .none .none (.ref 252) 2791
@[irreducible] noncomputable def o254 : Obj := fx (fm "get_all" "Headers.get_all" (mtAt pw 63 7) .none (.str "cpy313.wsgiref.headers" 2612) (.ref 253))
@[irreducible] noncomputable def o258 : Obj := tu #[(.str "self" 2797), (.str "name" 2798), (.str "default" 2799), (.str "k" 2800), (.str "v" 2801)]
@[irreducible] noncomputable def o260 : Obj := fo (fu "get" "Headers.get" (mtAt pw 63 8))
@[irreducible] noncomputable def o261 : Obj := co "get" "Headers.get" 2794 175 3 3 256 true 276 257 .none 258 259 260 2802 2803
@[irreducible] noncomputable def o262 : Obj := fx (fm "get" "Headers.get" (mtAt pw 63 8) (.ref 255) (.str "cpy313.wsgiref.headers" 2612) (.ref 261))
@[irreducible] noncomputable def o265 : Obj := fo (fu "keys" "Headers.keys" (mtAt pw 63 9))
@[irreducible] noncomputable def o266 : Obj := cg "keys" "Headers.keys" 2805 182 1 0 0 3 263 true 276 264 .none .none .none (.ref 265) 2808
@[irreducible] noncomputable def o267 : Obj := fx (fm "keys" "Headers.keys" (mtAt pw 63 9) .none (.str "cpy313.wsgiref.headers" 2612) (.ref 266))
@[irreducible] noncomputable def o270 : Obj := fo (fu "values" "Headers.values" (mtAt pw 63 10))
@[irreducible] noncomputable def o271 : Obj := cg "values" "Headers.values" 2811 185 1 0 0 3 268 true 276 269 .none .none .none (.ref 270) 2814
@[irreducible] noncomputable def o272 : Obj := fx (fm "values" "Headers.values" (mtAt pw 63 10) .none (.str "cpy313.wsgiref.headers" 2612) (.ref 271))
@[irreducible] noncomputable def o275 : Obj := tu #[(.str "self" 2820)]
@[irreducible] noncomputable def o277 : Obj := fo (fu "items" "Headers.items" (mtAt pw 63 11))
@[irreducible] noncomputable def o278 : Obj := co "items" "Headers.items" 2817 188 1 3 273 true 276 274 .none 275 276 277 2821 2822
@[irreducible] noncomputable def o279 : Obj := fx (fm "items" "Headers.items" (mtAt pw 63 11) .none (.str "cpy313.wsgiref.headers" 2612) (.ref 278))
@[irreducible] noncomputable def o282 : Obj := tu #[(.str "self" 2827)]
@[irreducible] noncomputable def o284 : Obj := fo (fu "__repr__" "Headers.__repr__" (mtAt pw 63 12))
@[irreducible] noncomputable def o285 : Obj := co "__repr__" "Headers.__repr__" 2824 191 1 3 280 true 276 281 .none 282 283 284 2828 2829
@[irreducible] noncomputable def o286 : Obj := fx (fm "__repr__" "Headers.__repr__" (mtAt pw 63 12) .none (.str "cpy313.wsgiref.headers" 2612) (.ref 285))
@[irreducible] noncomputable def o289 : Obj := fo (fu "__str__" "Headers.__str__" (mtAt pw 63 13))
@[irreducible] noncomputable def o290 : Obj := cg "__str__" "Headers.__str__" 2831 194 1 0 0 3 287 true 276 288 .none .none .none (.ref 289) 2834
@[irreducible] noncomputable def o291 : Obj := fx (fm "__str__" "Headers.__str__" (mtAt pw 63 13) .none (.str "cpy313.wsgiref.headers" 2612) (.ref 290))
@[irreducible] noncomputable def o294 : Obj := tu #[(.str "self" 2840)]
@[irreducible] noncomputable def o296 : Obj := fo (fu "__bytes__" "Headers.__bytes__" (mtAt pw 63 14))
@[irreducible] noncomputable def o297 : Obj := co "__bytes__" "Headers.__bytes__" 2837 197 1 3 292 true 276 293 .none 294 295 296 2841 2842
@[irreducible] noncomputable def o298 : Obj := fx (fm "__bytes__" "Headers.__bytes__" (mtAt pw 63 14) .none (.str "cpy313.wsgiref.headers" 2612) (.ref 297))
@[irreducible] noncomputable def o301 : Obj := tu #[(.str "self" 2847), (.str "name" 2848), (.str "value" 2849)]
@[irreducible] noncomputable def o303 : Obj := fo (fu "setdefault" "Headers.setdefault" (mtAt pw 63 15))
@[irreducible] noncomputable def o304 : Obj := co "setdefault" "Headers.setdefault" 2844 200 3 3 299 true 276 300 .none 301 302 303 2850 2851
@[irreducible] noncomputable def o305 : Obj := fx (fm "setdefault" "Headers.setdefault" (mtAt pw 63 15) .none (.str "cpy313.wsgiref.headers" 2612) (.ref 304))
@[irreducible] noncomputable def o308 : Obj := tu #[(.str "self" 2856), (.str "_name" 2857), (.str "_value" 2858), (.str "_params" 2859), (.str "parts" 2860), (.str "k" 2861), (.str "v" 2862)]
@[irreducible] noncomputable def o310 : Obj := fo (fu "add_header" "Headers.add_header" (mtAt pw 63 16))
@[irreducible] noncomputable def o311 : Obj := co "add_header" "Headers.add_header" 2853 203 3 11 306 true 276 307 .none 308 309 310 2863 2864
@[irreducible] noncomputable def o312 : Obj := fx (fm "add_header" "Headers.add_header" (mtAt pw 63 16) .none (.str "cpy313.wsgiref.headers" 2612) (.ref 311))
@[irreducible] noncomputable def o313 : Obj := tu #[(.str "_headers" 2866)]
@[irreducible] noncomputable def o314 (P : Params) : Obj := ⟨(.type "dict"), none, (.dict #[n124 P, n125 P, n126 P, n127 P, n128 P, n129 P, n130 P, n131 P, n132 P, n133 P, n134 P, n135 P, n136 P, n137 P, n138 P, n139 P, n140 P, n141 P, n142 P, n143 P, (en P "__dict__" 2869 (.ref 316)), (en P "__weakref__" 2871 (.ref 317)), (en P "__doc__" 2872 .none)] 4), #[]⟩
@[irreducible] noncomputable def o315 : Obj := ⟨(.type "type"), none, (.cls ⟨"Headers", [(.type "object")], [(.ref 315), (.type "object")], 314, "Headers", true, [], [], false, (none), false⟩), #[none, none, (some (.str "Headers" 2718)), (some (.str "Headers" 2726)), (some (.builtin "object.__new__")), (some (.bool true))]⟩
@[irreducible] noncomputable def o316 : Obj := ⟨(.type "getset_descriptor"), none, (.fields #[(.str "__dict__" 2868), (.ref 315), (.builtin "function.__dict__"), (.builtin "function.__dict__#set")]), #[]⟩
@[irreducible] noncomputable def o317 : Obj := ⟨(.type "getset_descriptor"), none, (.fields #[(.str "__weakref__" 2870), (.ref 315), (.builtin "ExceptionGroup.__weakref__"), .none]), #[]⟩
@[irreducible] noncomputable def o318 : Obj := ⟨(.type "super"), none, (.fields #[(.ref 315), (.ref 315), (.ref 315)]), #[]⟩
@[irreducible] noncomputable def o319 : Obj := ⟨(.type "builtin_function_or_method"), none, (.fields #[(.builtin "object.__init_subclass__"), (.ref 315)]), #[]⟩
@[irreducible] noncomputable def tr13 (P : Params) : BT := nd (o0 P) (nd (o1 P) (nd (o3x11 P) (nd o7 (nd o7 (nd o31 (nd o7 (nd (b3o 4) (lf o174) .nil) (nd o7 (lf o319) .nil)) (nd o95 (nd (b3o 36) t0 .nil) (lf o223))) (nd o7 (nd o79 (nd (b3o 20) (lf o271) .nil) (lf o207)) (nd o111 (nd o175 (lf o303) .nil) t0))) (nd o23 (nd o7 (nd o8 (nd (b3o 12) t0 .nil) (lf o199)) (nd o103 (nd o167 t0 .nil) t0)) (nd o55 (nd o7 (nd (b3o 28) (lf o279) .nil) (lf o215)) (nd o7 (nd o6 (lf o311) .nil) (lf o247))))) (nd (o11x1 P) (nd o19 (nd o7 (nd o67 (nd (b3o 8) t0 .nil) t0) (nd (o99 P) (nd o8 (lf o291) .nil) t0)) (nd o51 (nd o83 (nd (b3o 24) (lf o275) .nil) (lf o8)) (nd o115 (nd o174 (lf o8) .nil) t0))) (nd o27 (nd o43 (nd o75 (nd (b3o 16) (lf o267) .nil) t0) (nd o107 (nd (o171 P) t0 .nil) (lf o235))) (nd o7 (nd o7 (nd (b3o 32) t0 .nil) (lf o219)) (nd (b3o 0) (nd o187 (lf o315) .nil) (lf o8)))))) (nd o5 (nd o9 (nd o17 (nd o8 (nd o65 (nd (b3o 6) (lf o8) .nil) (lf o193)) (nd o97 (nd (b3o 38) (lf o289) .nil) (lf o8))) (nd o7 (nd o81 (nd (b3o 22) t0 .nil) (lf o209)) (nd o113 (nd o177 (lf o305) .nil) (lf o241)))) (nd o25 (nd (o41 P) (nd o7 (nd (b3o 14) (lf o265) .nil) (lf o201)) (nd o105 (nd (o169 P) (lf o297) .nil) (lf o233))) (nd o8 (nd o89 (nd (b3o 30) (lf o8) .nil) t0) (nd o121 (nd o185 (lf o313) .nil) (lf o249))))) (nd (o13 P) (nd (o21 P) (nd o37 (nd o69 (nd (b3o 10) (lf o261) .nil) (lf (o197 P))) (nd o101 (nd o7 (lf o8) .nil) (lf o229))) (nd o53 (nd o8 (nd (b3o 26) (lf o277) .nil) t0) (nd o8 (nd o181 t0 .nil) (lf o245)))) (nd o29x6 (nd o45 (nd o7 (nd (b3o 18) (lf o8) .nil) (lf o205)) (nd o7 (nd o6 (lf o301) .nil) (lf o8))) (nd o61 (nd o93 (nd (b3o 34) (lf o285) .nil) (lf o221)) (nd (b3o 2) (nd o8 (lf o317) .nil) (lf o253))))))) (nd (o2 P) (nd o4 (nd o8 (nd o16 (nd o7 (nd o8 (nd (b3o 5) t0 .nil) (lf o192)) (nd o96 (nd (b3o 37) (lf o8) .nil) t0)) (nd o48 (nd o7 (nd (b3o 21) (lf o272) .nil) (lf o208)) (nd (o112 P) (nd o176 (lf o304) .nil) (lf o240)))) (nd o24 (nd o40 (nd o72 (nd (b3o 13) (lf o8) .nil) (lf o200)) (nd o104 (nd o168 (lf o296) .nil) (lf o8))) (nd o7 (nd o88 (nd (b3o 29) t0 .nil) (lf o216)) (nd o120 (nd o174 (lf o312) .nil) (lf o248))))) (nd o12 (nd (o20 P) (nd o36 (nd o68 (nd (b3o 9) (lf o260) .nil) (lf o40)) (nd o100 (nd o164 t0 .nil) (lf o228))) (nd o7 (nd o7 (nd (b3o 25) t0 .nil) (lf o212)) (nd o7 (nd o180 (lf o308) .nil) (lf o8)))) (nd o7 (nd o44 (nd o76 (nd (b3o 17) t0 .nil) (lf o8)) (nd o108 (nd o172 (lf o8) .nil) t0)) (nd o60 (nd o8 (nd (b3o 33) (lf o284) .nil) t0) (nd (b3o 1) (nd o7 (lf o316) .nil) (lf o252)))))) (nd o6 (nd o10 (nd o18 (nd o34 (nd o7 (nd (b3o 7) (lf o258) .nil) (lf o194)) (nd o98 (nd o7 (lf o290) .nil) (lf o226))) (nd o8 (nd o82 (nd (b3o 23) (lf o8) .nil) t0) (nd o7 (nd o6 t0 .nil) (lf o242)))) (nd o26 (nd o7 (nd o74 (nd (b3o 15) (lf o266) .nil) (lf o174)) (nd o106 (nd (o170 P) (lf o298) .nil) (lf o234))) (nd o58 (nd o90 (nd (b3o 31) (lf o282) .nil) (lf o8)) (nd o122 (nd o186 (lf (o314 P)) .nil) t0)))) (nd o14 (nd o22 (nd o38 (nd o7 (nd (b3o 11) (lf o262) .nil) t0) (nd o102 (nd o166 (lf o294) .nil) (lf o230))) (nd o54 (nd o86 (nd (b3o 27) (lf o278) .nil) (lf o214)) (nd o118 (nd o182 (lf o310) .nil) t0))) (nd o30 (nd o46 (nd o8 (nd (b3o 19) (lf o270) .nil) t0) (nd o110 (nd o174 t0 .nil) (lf o238))) (nd o62 (nd o7 (nd (b3o 35) (lf o286) .nil) (lf o222)) (nd (b3o 3) (nd o190 (lf o318) .nil) (lf o254)))))))
@[irreducible] noncomputable def sh13 (P : Params) (os : OsState) : SharedT := ⟨tr13 P, 320, {}, #[], {}, 2875, os⟩
@[irreducible] noncomputable def sts10 : List Stmt := [stAt pw 63]
theorem pc10 (os : OsState) (w : World) : bigH noHint pw w 4000 Γ1 (execs sts10 envT) ⟨125, 0, 133, 20⟩ (sh12 w.params os) = some (.ok .next, ⟨134, 0, 215, 93⟩, sh13 w.params os) := by kernel_rfl
@[irreducible] noncomputable def o3x12 (P : Params) : Obj := ⟨(.type "dict"), none, (.dict #[(en P "__name__" 165 (.str "law_sh0080_01" 2875)), n0 P, n1 P, n2 P, n3 P, n4 P, n5 P, n6 P, n7 P, n8 P, n19 P, n20 P, n34 P, n35 P, n36 P, n37 P, n38 P, n39 P, n40 P, n41 P, n42 P, n43 P, n44 P, n45 P, n46 P, n47 P, n48 P, n49 P, n50 P, n51 P, n52 P, n53 P, n54 P, n55 P, n56 P, n57 P, n58 P, n59 P, n60 P, n61 P, n62 P, n63 P, n64 P, n65 P, n66 P, n67 P, n68 P, n69 P, n70 P, n71 P, n72 P, n73 P, n74 P, n75 P, n76 P, n77 P, n78 P, n79 P, n80 P, n81 P, n82 P, n83 P, n84 P, n85 P, n86 P, n119 P, n120 P, n121 P, n122 P, n123 P, (en P "_law_strewn" 2887 (.ref 326)), (en P "_law_row" 2908 (.ref 333)), (en P "_law_read" 2914 (.ref 338)), (en P "_law_play" 2920 (.ref 343)), (en P "_law_columns" 2931 (.ref 350)), (en P "_law_worth" 2945 (.ref 357)), (en P "law" 2951 (.ref 362))] 77), #[]⟩
@[irreducible] noncomputable def o29x7 : Obj := fi #[(.int 2 0), (.int 0 0), (.ref 37), (.int 6 0), (.int 0 0), (.ref 44), (.int 64 0), (.int 0 0), (.ref 121), (.int 67 0), (.int 0 0), (.ref 167), (.int 125 0), (.int 0 0), (.ref 193), (.int 134 0), (.int 0 0), (.ref 200), (.int 217 0), (.int 0 0), (.ref 325), (.int 222 0), (.int 0 0), (.ref 332), (.int 240 0), (.int 0 0), (.ref 337), (.int 247 0), (.int 0 0), (.ref 342), (.int 272 0), (.int 0 0), (.ref 349), (.int 280 0), (.int 0 0), (.ref 356), (.int 290 0), (.int 0 0), (.ref 361)]
@[irreducible] noncomputable def o322 : Obj := tu #[(.str "z" 2880), (.str "runs" 2881), (.str "low" 2882), (.str "high" 2883), (.str "code" 2884)]
@[irreducible] noncomputable def o324 : Obj := fo (fu "_law_strewn" "_law_strewn" (stAt pw 65))
@[irreducible] noncomputable def o325 : Obj := co "_law_strewn" "_law_strewn" 2877 217 1 3 320 true 276 321 .none 322 323 324 2885 2886
@[irreducible] noncomputable def o326 : Obj := fx (fm "_law_strewn" "_law_strewn" (stAt pw 65) .none (.str "law_sh0080_01" 2875) (.ref 325))
@[irreducible] noncomputable def o329 : Obj := tu #[(.str "i" 2891), (.str "x" 2892), (.str "y" 2893), (.str "lead" 2894), (.str "signs" 2895), (.str "k" 2896), (.str "place" 2897), (.str "first" 2898), (.str "z" 2899), (.str "sign" 2900), (.str "unseen" 2901), (.str "bare" 2902), (.str "word" 2903), (.str "at" 2904), (.str "text" 2905)]
@[irreducible] noncomputable def o331 : Obj := fo (fu "_law_row" "_law_row" (stAt pw 66))
@[irreducible] noncomputable def o332 : Obj := co "_law_row" "_law_row" 2888 222 2 3 327 true 276 328 .none 329 330 331 2906 2907
@[irreducible] noncomputable def o333 : Obj := fx (fm "_law_row" "_law_row" (stAt pw 66) .none (.str "law_sh0080_01" 2875) (.ref 332))
@[irreducible] noncomputable def o336 : Obj := fo (fu "_law_read" "_law_read" (stAt pw 67))
@[irreducible] noncomputable def o337 : Obj := cg "_law_read" "_law_read" 2909 240 1 0 0 3 334 true 276 335 .none .none .none (.ref 336) 2912
@[irreducible] noncomputable def o338 : Obj := fx (fm "_law_read" "_law_read" (stAt pw 67) .none (.str "law_sh0080_01" 2875) (.ref 337))
@[irreducible] noncomputable def o341 : Obj := fo (fu "_law_play" "_law_play" (stAt pw 68))
@[irreducible] noncomputable def o342 : Obj := cg "_law_play" "_law_play" 2915 247 1 0 0 3 339 true 276 340 .none .none .none (.ref 341) 2918
@[irreducible] noncomputable def o343 : Obj := fx (fm "_law_play" "_law_play" (stAt pw 68) .none (.str "law_sh0080_01" 2875) (.ref 342))
@[irreducible] noncomputable def o346 : Obj := tu #[(.str "lead" 2924), (.str "told" 2925), (.str "size" 2926), (.str "column" 2927), (.str "sign" 2928)]
@[irreducible] noncomputable def o348 : Obj := fo (fu "_law_columns" "_law_columns" (stAt pw 69))
@[irreducible] noncomputable def o349 : Obj := co "_law_columns" "_law_columns" 2921 272 1 3 344 true 276 345 .none 346 347 348 2929 2930
@[irreducible] noncomputable def o350 : Obj := fx (fm "_law_columns" "_law_columns" (stAt pw 69) .none (.str "law_sh0080_01" 2875) (.ref 349))
@[irreducible] noncomputable def o353 : Obj := tu #[(.str "here" 2935), (.str "drawn" 2936), (.str "up" 2937), (.str "on" 2938), (.str "i" 2939), (.str "turn" 2940), (.str "x" 2941), (.str "n" 2942)]
@[irreducible] noncomputable def o355 : Obj := fo (fu "_law_worth" "_law_worth" (stAt pw 70))
@[irreducible] noncomputable def o356 : Obj := co "_law_worth" "_law_worth" 2932 280 3 3 351 true 276 352 .none 353 354 355 2943 2944
@[irreducible] noncomputable def o357 : Obj := fx (fm "_law_worth" "_law_worth" (stAt pw 70) .none (.str "law_sh0080_01" 2875) (.ref 356))
@[irreducible] noncomputable def o360 : Obj := fo (fu "law" "law" (stAt pw 71))
@[irreducible] noncomputable def o361 : Obj := cg "law" "law" 2946 290 1 0 0 3 358 true 276 359 .none .none .none (.ref 360) 2949
@[irreducible] noncomputable def o362 : Obj := fx (fm "law" "law" (stAt pw 71) .none (.str "law_sh0080_01" 2875) (.ref 361))
@[irreducible] noncomputable def tr14 (P : Params) : BT := nd (o0 P) (nd (o1 P) (nd (o3x12 P) (nd o7 (nd o7 (nd o31 (nd o7 (nd (b3o 4) (lf o174) .nil) (nd o7 (lf o319) .nil)) (nd o95 (nd (b3o 36) t0 .nil) (nd o223 t0 .nil))) (nd o7 (nd o79 (nd (b3o 20) (lf o271) .nil) (nd o207 (lf o8) .nil)) (nd o111 (nd o175 (lf o303) .nil) t0))) (nd o23 (nd o7 (nd o8 (nd (b3o 12) t0 .nil) (nd o199 t0 .nil)) (nd o103 (nd o167 t0 .nil) (nd o7 (lf o8) .nil))) (nd o55 (nd o7 (nd (b3o 28) (lf o279) .nil) (nd o215 (lf o343) .nil)) (nd o7 (nd o6 (lf o311) .nil) (lf o247))))) (nd (o11x1 P) (nd o19 (nd o7 (nd o67 (nd (b3o 8) t0 .nil) (nd o7 t0 .nil)) (nd (o99 P) (nd o8 (lf o291) .nil) (nd o7 (lf o355) .nil))) (nd o51 (nd o83 (nd (b3o 24) (lf o275) .nil) (nd o8 t0 .nil)) (nd o115 (nd o174 (lf o8) .nil) t0))) (nd o27 (nd o43 (nd o75 (nd (b3o 16) (lf o267) .nil) (nd o7 (lf o331) .nil)) (nd o107 (nd (o171 P) t0 .nil) (lf o235))) (nd o7 (nd o7 (nd (b3o 32) t0 .nil) (nd o219 t0 .nil)) (nd (b3o 0) (nd o187 (lf o315) .nil) (lf o8)))))) (nd o5 (nd o9 (nd o17 (nd o8 (nd o65 (nd (b3o 6) (lf o8) .nil) (nd o193 (lf o8) .nil)) (nd o97 (nd (b3o 38) (lf o289) .nil) (nd o8 (lf o353) .nil))) (nd o7 (nd o81 (nd (b3o 22) t0 .nil) (nd o209 (lf o337) .nil)) (nd o113 (nd o177 (lf o305) .nil) (lf o241)))) (nd o25 (nd (o41 P) (nd o7 (nd (b3o 14) (lf o265) .nil) (nd o201 (lf o329) .nil)) (nd o105 (nd (o169 P) (lf o297) .nil) (nd o233 (lf o361) .nil))) (nd o8 (nd o89 (nd (b3o 30) (lf o8) .nil) (nd o7 (lf o8) .nil)) (nd o121 (nd o185 (lf o313) .nil) (lf o249))))) (nd (o13 P) (nd (o21 P) (nd o37 (nd o69 (nd (b3o 10) (lf o261) .nil) (nd (o197 P) (lf o325) .nil)) (nd o101 (nd o7 (lf o8) .nil) (nd o229 (lf o357) .nil))) (nd o53 (nd o8 (nd (b3o 26) (lf o277) .nil) (nd o7 (lf o341) .nil)) (nd o8 (nd o181 t0 .nil) (lf o245)))) (nd o29x7 (nd o45 (nd o7 (nd (b3o 18) (lf o8) .nil) (nd o205 (lf o333) .nil)) (nd o7 (nd o6 (lf o301) .nil) (lf o8))) (nd o61 (nd o93 (nd (b3o 34) (lf o285) .nil) (nd o221 (lf o349) .nil)) (nd (b3o 2) (nd o8 (lf o317) .nil) (lf o253))))))) (nd (o2 P) (nd o4 (nd o8 (nd o16 (nd o7 (nd o8 (nd (b3o 5) t0 .nil) (nd o192 t0 .nil)) (nd o96 (nd (b3o 37) (lf o8) .nil) (nd o7 (lf o8) .nil))) (nd o48 (nd o7 (nd (b3o 21) (lf o272) .nil) (nd o208 (lf o336) .nil)) (nd (o112 P) (nd o176 (lf o304) .nil) (lf o240)))) (nd o24 (nd o40 (nd o72 (nd (b3o 13) (lf o8) .nil) (nd o200 (lf o8) .nil)) (nd o104 (nd o168 (lf o296) .nil) (nd o8 (lf o360) .nil))) (nd o7 (nd o88 (nd (b3o 29) t0 .nil) (nd o216 t0 .nil)) (nd o120 (nd o174 (lf o312) .nil) (lf o248))))) (nd o12 (nd (o20 P) (nd o36 (nd o68 (nd (b3o 9) (lf o260) .nil) (nd o40 (lf o324) .nil)) (nd o100 (nd o164 t0 .nil) (nd o228 (lf o356) .nil))) (nd o7 (nd o7 (nd (b3o 25) t0 .nil) (nd o212 (lf o8) .nil)) (nd o7 (nd o180 (lf o308) .nil) (lf o8)))) (nd o7 (nd o44 (nd o76 (nd (b3o 17) t0 .nil) (nd o8 (lf o332) .nil)) (nd o108 (nd o172 (lf o8) .nil) t0)) (nd o60 (nd o8 (nd (b3o 33) (lf o284) .nil) (nd o7 (lf o348) .nil)) (nd (b3o 1) (nd o7 (lf o316) .nil) (lf o252)))))) (nd o6 (nd o10 (nd o18 (nd o34 (nd o7 (nd (b3o 7) (lf o258) .nil) (nd o194 (lf o322) .nil)) (nd o98 (nd o7 (lf o290) .nil) (nd o226 t0 .nil))) (nd o8 (nd o82 (nd (b3o 23) (lf o8) .nil) (nd o7 (lf o338) .nil)) (nd o7 (nd o6 t0 .nil) (lf o242)))) (nd o26 (nd o7 (nd o74 (nd (b3o 15) (lf o266) .nil) (nd o174 t0 .nil)) (nd o106 (nd (o170 P) (lf o298) .nil) (nd o234 (lf o362) .nil))) (nd o58 (nd o90 (nd (b3o 31) (lf o282) .nil) (nd o8 (lf o346) .nil)) (nd o122 (nd o186 (lf (o314 P)) .nil) t0)))) (nd o14 (nd o22 (nd o38 (nd o7 (nd (b3o 11) (lf o262) .nil) (nd o7 (lf o326) .nil)) (nd o102 (nd o166 (lf o294) .nil) (nd o230 t0 .nil))) (nd o54 (nd o86 (nd (b3o 27) (lf o278) .nil) (nd o214 (lf o342) .nil)) (nd o118 (nd o182 (lf o310) .nil) t0))) (nd o30 (nd o46 (nd o8 (nd (b3o 19) (lf o270) .nil) (nd o7 t0 .nil)) (nd o110 (nd o174 t0 .nil) (lf o238))) (nd o62 (nd o7 (nd (b3o 35) (lf o286) .nil) (nd o222 (lf o350) .nil)) (nd (b3o 3) (nd o190 (lf o318) .nil) (lf o254)))))))
@[irreducible] noncomputable def sh14 (P : Params) (os : OsState) : SharedT := ⟨tr14 P, 363, {}, #[], {}, 2952, os⟩
@[irreducible] noncomputable def sts11 : List Stmt := [stAt pw 64, stAt pw 65, stAt pw 66, stAt pw 67, stAt pw 68, stAt pw 69, stAt pw 70, stAt pw 71]
theorem pc11 (os : OsState) (w : World) : bigH noHint pw w 4000 Γ1 (execs sts11 envT) ⟨134, 0, 215, 93⟩ (sh13 w.params os) = some (.ok .next, ⟨290, 0, 308, 15⟩, sh14 w.params os) := by kernel_rfl
theorem body_sts : behindTheImports pw = sts0 ++ sts1 ++ sts2 ++ sts3 ++ sts4 ++ sts5 ++ sts6 ++ sts7 ++ sts8 ++ sts9 ++ sts10 ++ sts11 ++ [] := by kernel_rfl
noncomputable abbrev fn_q3 : Addr := 55
noncomputable abbrev st_q3 : Stmt := (mtAt pw 3 1)
noncomputable abbrev fd_q3 : FuncData := fm "__init__" "Whitespace.__init__" (mtAt pw 3 1) .none (.str "cpy313.tabnanny" 289) (.ref 54)
noncomputable abbrev fn_q2 : Addr := 62
noncomputable abbrev st_q2 : Stmt := (mtAt pw 3 2)
noncomputable abbrev fd_q2 : FuncData := fm "longest_run_of_spaces" "Whitespace.longest_run_of_spaces" (mtAt pw 3 2) .none (.str "cpy313.tabnanny" 289) (.ref 61)
noncomputable abbrev fn_q6 : Addr := 69
noncomputable abbrev st_q6 : Stmt := (mtAt pw 3 3)
noncomputable abbrev fd_q6 : FuncData := fm "indent_level" "Whitespace.indent_level" (mtAt pw 3 3) .none (.str "cpy313.tabnanny" 289) (.ref 68)
noncomputable abbrev fn_q14 : Addr := 90
noncomputable abbrev st_q14 : Stmt := (mtAt pw 3 6)
noncomputable abbrev fd_q14 : FuncData := fm "less" "Whitespace.less" (mtAt pw 3 6) .none (.str "cpy313.tabnanny" 289) (.ref 89)
noncomputable abbrev cl_q4 : Addr := 100
noncomputable abbrev fn_q18 : Addr := 122
noncomputable abbrev st_q18 : Stmt := (stAt pw 6)
noncomputable abbrev fd_q18 : FuncData := fm "in_table_b1" "in_table_b1" (stAt pw 6) .none (.str "cpy313.stringprep" 391) (.ref 121)
noncomputable abbrev fn_q17 : Addr := 168
noncomputable abbrev st_q17 : Stmt := (stAt pw 8)
noncomputable abbrev fd_q17 : FuncData := fm "map_table_b3" "map_table_b3" (stAt pw 8) .none (.str "cpy313.stringprep" 391) (.ref 167)
noncomputable abbrev fn_q10 : Addr := 209
noncomputable abbrev st_q10 : Stmt := (mtAt pw 63 0)
noncomputable abbrev fd_q10 : FuncData := fm "__init__" "Headers.__init__" (mtAt pw 63 0) (.ref 202) (.str "cpy313.wsgiref.headers" 2612) (.ref 208)
noncomputable abbrev fn_q0 : Addr := 216
noncomputable abbrev st_q0 : Stmt := (mtAt pw 63 1)
noncomputable abbrev fd_q0 : FuncData := fm "_convert_string_type" "Headers._convert_string_type" (mtAt pw 63 1) .none (.str "cpy313.wsgiref.headers" 2612) (.ref 215)
noncomputable abbrev fn_q15 : Addr := 254
noncomputable abbrev st_q15 : Stmt := (mtAt pw 63 7)
noncomputable abbrev fd_q15 : FuncData := fm "get_all" "Headers.get_all" (mtAt pw 63 7) .none (.str "cpy313.wsgiref.headers" 2612) (.ref 253)
noncomputable abbrev fn_q12 : Addr := 262
noncomputable abbrev st_q12 : Stmt := (mtAt pw 63 8)
noncomputable abbrev fd_q12 : FuncData := fm "get" "Headers.get" (mtAt pw 63 8) (.ref 255) (.str "cpy313.wsgiref.headers" 2612) (.ref 261)
noncomputable abbrev fn_q7 : Addr := 312
noncomputable abbrev st_q7 : Stmt := (mtAt pw 63 16)
noncomputable abbrev fd_q7 : FuncData := fm "add_header" "Headers.add_header" (mtAt pw 63 16) .none (.str "cpy313.wsgiref.headers" 2612) (.ref 311)
noncomputable abbrev cl_q5 : Addr := 315
noncomputable abbrev fn_q20 : Addr := 326
noncomputable abbrev st_q20 : Stmt := (stAt pw 65)
noncomputable abbrev fd_q20 : FuncData := fm "_law_strewn" "_law_strewn" (stAt pw 65) .none (.str "law_sh0080_01" 2875) (.ref 325)
noncomputable abbrev fn_q23 : Addr := 333
noncomputable abbrev st_q23 : Stmt := (stAt pw 66)
noncomputable abbrev fd_q23 : FuncData := fm "_law_row" "_law_row" (stAt pw 66) .none (.str "law_sh0080_01" 2875) (.ref 332)
noncomputable abbrev fn_q21 : Addr := 338
noncomputable abbrev st_q21 : Stmt := (stAt pw 67)
noncomputable abbrev fd_q21 : FuncData := fm "_law_read" "_law_read" (stAt pw 67) .none (.str "law_sh0080_01" 2875) (.ref 337)
noncomputable abbrev fn_q1 : Addr := 343
noncomputable abbrev st_q1 : Stmt := (stAt pw 68)
noncomputable abbrev fd_q1 : FuncData := fm "_law_play" "_law_play" (stAt pw 68) .none (.str "law_sh0080_01" 2875) (.ref 342)
noncomputable abbrev fn_q13 : Addr := 350
noncomputable abbrev st_q13 : Stmt := (stAt pw 69)
noncomputable abbrev fd_q13 : FuncData := fm "_law_columns" "_law_columns" (stAt pw 69) .none (.str "law_sh0080_01" 2875) (.ref 349)
noncomputable abbrev fn_q19 : Addr := 357
noncomputable abbrev st_q19 : Stmt := (stAt pw 70)
noncomputable abbrev fd_q19 : FuncData := fm "_law_worth" "_law_worth" (stAt pw 70) .none (.str "law_sh0080_01" 2875) (.ref 356)
noncomputable abbrev fn_law : Addr := 362
noncomputable abbrev st_law : Stmt := (stAt pw 71)
noncomputable abbrev fd_law : FuncData := fm "law" "law" (stAt pw 71) .none (.str "law_sh0080_01" 2875) (.ref 361)
@[irreducible] noncomputable def KK (P : Params) : Frag := [(38, o38), (37, o37), (55, o55), (54, o54), (62, o62), (61, o61), (69, o69), (68, o68), (76, o76), (75, o75), (83, o83), (82, o82), (90, o90), (89, o89), (97, o97), (96, o96), (100, o100), (99, o99 P), (122, o122), (121, o121), (168, o168), (167, o167), (176, o176), (175, o175), (181, o181), (180, o180), (186, o186), (185, o185), (194, o194), (193, o193), (187, o187), (209, o209), (208, o208), (202, o174), (216, o216), (215, o215), (223, o223), (222, o222), (230, o230), (229, o229), (235, o235), (234, o234), (242, o242), (241, o241), (249, o249), (248, o248), (254, o254), (253, o253), (262, o262), (261, o261), (255, o174), (267, o267), (266, o266), (272, o272), (271, o271), (279, o279), (278, o278), (286, o286), (285, o285), (291, o291), (290, o290), (298, o298), (297, o297), (305, o305), (304, o304), (312, o312), (311, o311), (315, o315), (314, o314 P), (326, o326), (325, o325), (333, o333), (332, o332), (338, o338), (337, o337), (343, o343), (342, o342), (350, o350), (349, o349), (357, o357), (356, o356), (362, o362), (361, o361), (1, o1 P), (2, o2 P)]
noncomputable abbrev at_q22 : Addr := 112
noncomputable abbrev at_q16 : Addr := 123
noncomputable abbrev at_q11 : Addr := 169
noncomputable def exL : List (Str × Int) := [((so "!"), 54), ((so "!="), 28), ((so "%"), 24), ((so "%="), 40), ((so "&"), 19), ((so "&="), 41), ((so "("), 7), ((so ")"), 8), ((so "*"), 16), ((so "**"), 35), ((so "**="), 46), ((so "*="), 38), ((so "+"), 14), ((so "+="), 36), ((so ","), 12), ((so "-"), 15), ((so "-="), 37), ((so "->"), 51), ((so "."), 23), ((so "..."), 52), ((so "/"), 17), ((so "//"), 47), ((so "//="), 48), ((so "/="), 39), ((so ":"), 11), ((so ":="), 53), ((so ";"), 13), ((so "<"), 20), ((so "<<"), 33), ((so "<<="), 44), ((so "<="), 29), ((so "="), 22), ((so "=="), 27), ((so ">"), 21), ((so ">="), 30), ((so ">>"), 34), ((so ">>="), 45), ((so "@"), 49), ((so "@="), 50), ((so "["), 9), ((so "]"), 10), ((so "^"), 32), ((so "^="), 43), ((so "{"), 25), ((so "|"), 18), ((so "|="), 42), ((so "}"), 26), ((so "~"), 31)]
noncomputable abbrev at_q9 : Addr := 181
noncomputable abbrev at_q8 : Addr := 186
noncomputable def gtab : List (Str × Value) := [((so "__name__"), (.str (so "law_sh0080_01") 2875)), ((so "__doc__"), .none), ((so "__package__"), .none), ((so "__loader__"), (.builtin "__main__.__loader__#opaque")), ((so "__spec__"), .none), ((so "__annotations__"), (.ref 6)), ((so "__builtins__"), (.ref 4)), ((so "__file__"), (.str (so "/claim/cut.py") 172)), ((so "__cached__"), .none), ((so "_sre"), (.ref 12)), ((so "_wall"), (.ref 38)), ((so "Whitespace"), (.ref 100)), ((so "b1_set"), (.ref 112)), ((so "in_table_b1"), (.ref 122)), ((so "b3_exceptions"), (.ref 123)), ((so "map_table_b3"), (.ref 168)), ((so "LPAR"), (.int 7 2419)), ((so "RPAR"), (.int 8 2421)), ((so "LSQB"), (.int 9 2423)), ((so "RSQB"), (.int 10 2425)), ((so "COLON"), (.int 11 2427)), ((so "COMMA"), (.int 12 2429)), ((so "SEMI"), (.int 13 2431)), ((so "PLUS"), (.int 14 2433)), ((so "MINUS"), (.int 15 2435)), ((so "STAR"), (.int 16 2437)), ((so "SLASH"), (.int 17 2439)), ((so "VBAR"), (.int 18 2441)), ((so "AMPER"), (.int 19 2443)), ((so "LESS"), (.int 20 2445)), ((so "GREATER"), (.int 21 2447)), ((so "EQUAL"), (.int 22 2449)), ((so "DOT"), (.int 23 2451)), ((so "PERCENT"), (.int 24 2453)), ((so "LBRACE"), (.int 25 2455)), ((so "RBRACE"), (.int 26 2457)), ((so "EQEQUAL"), (.int 27 2459)), ((so "NOTEQUAL"), (.int 28 2461)), ((so "LESSEQUAL"), (.int 29 2463)), ((so "GREATEREQUAL"), (.int 30 2465)), ((so "TILDE"), (.int 31 2467)), ((so "CIRCUMFLEX"), (.int 32 2469)), ((so "LEFTSHIFT"), (.int 33 2471)), ((so "RIGHTSHIFT"), (.int 34 2473)), ((so "DOUBLESTAR"), (.int 35 2475)), ((so "PLUSEQUAL"), (.int 36 2477)), ((so "MINEQUAL"), (.int 37 2479)), ((so "STAREQUAL"), (.int 38 2481)), ((so "SLASHEQUAL"), (.int 39 2483)), ((so "PERCENTEQUAL"), (.int 40 2485)), ((so "AMPEREQUAL"), (.int 41 2487)), ((so "VBAREQUAL"), (.int 42 2489)), ((so "CIRCUMFLEXEQUAL"), (.int 43 2491)), ((so "LEFTSHIFTEQUAL"), (.int 44 2493)), ((so "RIGHTSHIFTEQUAL"), (.int 45 2495)), ((so "DOUBLESTAREQUAL"), (.int 46 2497)), ((so "DOUBLESLASH"), (.int 47 2499)), ((so "DOUBLESLASHEQUAL"), (.int 48 2501)), ((so "AT"), (.int 49 2503)), ((so "ATEQUAL"), (.int 50 2505)), ((so "RARROW"), (.int 51 2507)), ((so "ELLIPSIS"), (.int 52 2509)), ((so "COLONEQUAL"), (.int 53 2511)), ((so "EXCLAMATION"), (.int 54 2513)), ((so "EXACT_TOKEN_TYPES"), (.ref 169)), ((so "tspecials"), (.ref 176)), ((so "_name_disallowed_re"), (.ref 181)), ((so "_value_disallowed_re"), (.ref 186)), ((so "_formatparam"), (.ref 194)), ((so "Headers"), (.ref 315)), ((so "_law_strewn"), (.ref 326)), ((so "_law_row"), (.ref 333)), ((so "_law_read"), (.ref 338)), ((so "_law_play"), (.ref 343)), ((so "_law_columns"), (.ref 350)), ((so "_law_worth"), (.ref 357)), ((so "law"), (.ref 362))]
end Mine
namespace Mine
open PySem PySem.W PySem.Challenge PySem.Calls PyProof.Rows
theorem wp_execs_app (M : Model) (Γ : Ctx) (env : Env) (r : List Stmt) (Q : Flow → Pos → Shared → Prop) (E : Value → Pos → Shared → Prop) : ∀ (l : List Stmt) (p : Pos) (s : Shared),
 Sem.wp M Γ (execs l env) (fun f p' s' => match f with | .next => Sem.wp M Γ (execs r env) Q E p' s' | f => Q f p' s') E p s → Sem.wp M Γ (execs (l ++ r) env) Q E p s
 | [], p, s, h => h
 | x :: l, p, s, h => by
  rw [List.cons_append, execs_cons, Sem.wp_bind']
  rw [execs_cons, Sem.wp_bind'] at h
  refine Sem.wp_mono _ _ _ (fun f p' s' hf => ?_) (fun _ _ _ e => e) _ _ h
  cases f with
  | next => exact wp_execs_app M Γ env r Q E l p' s' hf
  | _ => exact hf
noncomputable def A1 : Around := ⟨none, frameCount Γ1.below + Γ1.code.weight, none, none, Γ1.units⟩
theorem in1 : Γ1.In A1 := by
 refine ⟨by kernel_rfl, Nat.le_refl _, ?_, ?_, Nat.le_refl _⟩ <;> (intro l e; exact nomatch e)
theorem b3_mid (P : Params) (os : OsState) : (⟨hx (absHeap (tr7 P) b3at {}) b3objs, #[], {}, b3tk + 3 * b3L.length, os⟩ : Shared) = (shm P os).abs := by
 rw [hx_tree _ _ _ (b3_treeOk P), b3_tree, b3_len]
 have : b3objs.length = (shm P os).n - b3at := by kernel_rfl
 rw [this]
 kernel_rfl
theorem pc5 (w : World) (os : OsState) {Q : Flow → Pos → Shared → Prop} {E : Value → Pos → Shared → Prop} (H : Q .next b3posE (sh8 w.params os).abs) :
 Sem.wp (model pw w) Γ1 (execs sts5 envT) Q E b3pos (sh7 w.params os).abs := by
 have e : sts5 = [.Assign [.Name b3x b3tp] (.Dict b3keys b3vals b3dp) b3ap] := by kernel_rfl
 rw [e, execs_cons, Sem.wp_bind', exec_Assign_Name (hs := rfl)]
 have hst := store_big w os
 have key : ∀ q, Sem.wp (model pw w) Γ1 (do standAt b3tp; bindName envT b3x (.ref b3at); pure Flow.next) (fun f p' s' => f = .next ∧ p' = b3posE ∧ s' = (sh8 w.params os).abs) (fun _ _ _ => False) q (shm w.params os).abs := fun q => wp_of_big (hst q) ⟨rfl, rfl, rfl⟩
 rw [Sem.wp_bind']
 show Sem.wp _ _ (standAt b3ap) _ _ _ _
 unfold standAt
 rw [Sem.wp_at, Sem.wp_pure]
 rw [Sem.wp_bind']
 have ev : wpAny (model pw w) A1 (eval (.Dict b3keys b3vals b3dp) envT) (fun v s' => v = .ref b3at ∧ s' = (shm w.params os).abs) (fun _ _ => False) (sh7 w.params os).abs := by
  have hs : (sh7 w.params os).abs = ⟨absHeap (tr7 w.params) b3at {}, #[], {}, b3tk, os⟩ := by kernel_rfl
  rw [hs]
  refine evalDictX (h := absHeap (tr7 w.params) b3at {}) (n := b3n) (tk := b3tk) (L := b3L) (by rw [absHeap_size]; decide) b3_lits b3_all b3_same (incr_nodup _ b3_incr) (by rw [b3_len]; decide) (by rw [b3_len]; decide) (by rw [b3_len, sizeLine_eq]; decide) ?_
  refine ⟨by rw [absHeap_size], ?_⟩
  rw [← b3_mid, b3_len]
  kernel_rfl
 refine Sem.wp_mono _ _ _ (fun v p' s' hv => ?_) (fun _ _ _ e => e.elim) _ _ (ev Γ1 _ in1)
 obtain ⟨rfl, rfl⟩ := hv
 refine Sem.wp_mono _ _ _ (fun f p2 s2 hf => ?_) (fun _ _ _ e => e.elim) _ _ (key p')
 obtain ⟨rfl, rfl, rfl⟩ := hf
 exact H
theorem pw0 (w : World) (os : OsState) {Q : Flow → Pos → Shared → Prop} {E : Value → Pos → Shared → Prop} (H : Q .next ⟨5, 0, 5, 8⟩ (sh3 w.params os).abs) : Sem.wp (model pw w) Γ1 (execs sts0 envT) Q E ⟨0, 0, 0, 0⟩ (sh2 w.params os).abs :=
 wp_of_bigH (noHint_ok _) (pc0 os w) H
theorem pw1 (w : World) (os : OsState) {Q : Flow → Pos → Shared → Prop} {E : Value → Pos → Shared → Prop} (H : Q .next ⟨6, 0, 61, 16⟩ (sh4 w.params os).abs) : Sem.wp (model pw w) Γ1 (execs sts1 envT) Q E ⟨5, 0, 5, 8⟩ (sh3 w.params os).abs :=
 wp_of_bigH (noHint_ok _) (pc1 os w) H
theorem pw2 (w : World) (os : OsState) {Q : Flow → Pos → Shared → Prop} {E : Value → Pos → Shared → Prop} (H : Q .next ⟨62, 0, 62, 8⟩ (sh5 w.params os).abs) : Sem.wp (model pw w) Γ1 (execs sts2 envT) Q E ⟨6, 0, 61, 16⟩ (sh4 w.params os).abs :=
 wp_of_bigH (noHint_ok _) (pc2 os w) H
theorem pw3 (w : World) (os : OsState) {Q : Flow → Pos → Shared → Prop} {E : Value → Pos → Shared → Prop} (H : Q .next ⟨63, 0, 63, 6⟩ (sh6 w.params os).abs) : Sem.wp (model pw w) Γ1 (execs sts3 envT) Q E ⟨62, 0, 62, 8⟩ (sh5 w.params os).abs :=
 wp_of_bigH (listHint_ok pw w) (pc3 os w) H
theorem pw4 (w : World) (os : OsState) {Q : Flow → Pos → Shared → Prop} {E : Value → Pos → Shared → Prop} (H : Q .next ⟨64, 0, 65, 30⟩ (sh7 w.params os).abs) : Sem.wp (model pw w) Γ1 (execs sts4 envT) Q E ⟨63, 0, 63, 6⟩ (sh6 w.params os).abs :=
 wp_of_bigH (noHint_ok _) (pc4 os w) H
theorem pw5 (w : World) (os : OsState) {Q : Flow → Pos → Shared → Prop} {E : Value → Pos → Shared → Prop} (H : Q .next ⟨66, 0, 66, 13⟩ (sh8 w.params os).abs) : Sem.wp (model pw w) Γ1 (execs sts5 envT) Q E ⟨64, 0, 65, 30⟩ (sh7 w.params os).abs := pc5 w os H
theorem pw6 (w : World) (os : OsState) {Q : Flow → Pos → Shared → Prop} {E : Value → Pos → Shared → Prop} (H : Q .next ⟨117, 0, 117, 8⟩ (sh9 w.params os).abs) : Sem.wp (model pw w) Γ1 (execs sts6 envT) Q E ⟨66, 0, 66, 13⟩ (sh8 w.params os).abs :=
 wp_of_bigH (noHint_ok _) (pc6 os w ⟨66, 0, 66, 13⟩) H
theorem pw7 (w : World) (os : OsState) {Q : Flow → Pos → Shared → Prop} {E : Value → Pos → Shared → Prop} (H : Q .next ⟨119, 0, 119, 11⟩ (sh10 w.params os).abs) : Sem.wp (model pw w) Γ1 (execs sts7 envT) Q E ⟨117, 0, 117, 8⟩ (sh9 w.params os).abs :=
 wp_of_bigH (noHint_ok _) (pc7 os w) H
theorem pw8 (w : World) (os : OsState) {Q : Flow → Pos → Shared → Prop} {E : Value → Pos → Shared → Prop} (H : Q .next ⟨120, 0, 120, 17⟩ (sh11 w.params os).abs) : Sem.wp (model pw w) Γ1 (execs sts8 envT) Q E ⟨119, 0, 119, 11⟩ (sh10 w.params os).abs :=
 wp_of_bigH (noHint_ok _) (pc8 os w) H
theorem pw9 (w : World) (os : OsState) {Q : Flow → Pos → Shared → Prop} {E : Value → Pos → Shared → Prop} (H : Q .next ⟨125, 0, 133, 20⟩ (sh12 w.params os).abs) : Sem.wp (model pw w) Γ1 (execs sts9 envT) Q E ⟨120, 0, 120, 17⟩ (sh11 w.params os).abs :=
 wp_of_bigH (noHint_ok _) (pc9 os w) H
theorem pw10 (w : World) (os : OsState) {Q : Flow → Pos → Shared → Prop} {E : Value → Pos → Shared → Prop} (H : Q .next ⟨134, 0, 215, 93⟩ (sh13 w.params os).abs) : Sem.wp (model pw w) Γ1 (execs sts10 envT) Q E ⟨125, 0, 133, 20⟩ (sh12 w.params os).abs :=
 wp_of_bigH (noHint_ok _) (pc10 os w) H
theorem pw11 (w : World) (os : OsState) {Q : Flow → Pos → Shared → Prop} {E : Value → Pos → Shared → Prop} (H : Q .next ⟨290, 0, 308, 15⟩ (sh14 w.params os).abs) : Sem.wp (model pw w) Γ1 (execs sts11 envT) Q E ⟨134, 0, 215, 93⟩ (sh13 w.params os).abs :=
 wp_of_bigH (noHint_ok _) (pc11 os w) H
theorem body_wp (w : World) (os : OsState) {Q : Flow → Pos → Shared → Prop} {E : Value → Pos → Shared → Prop} (H : Q .next ⟨290, 0, 308, 15⟩ (sh14 w.params os).abs) :
 Sem.wp (model pw w) Γ1 (execs (behindTheImports pw) envT) Q E ⟨0, 0, 0, 0⟩ (sh2 w.params os).abs := by
 rw [body_sts]
 simp only [List.append_assoc]
 refine wp_execs_app _ _ _ _ _ _ sts0 _ _ (pw0 w os ?_)
 refine wp_execs_app _ _ _ _ _ _ sts1 _ _ (pw1 w os ?_)
 refine wp_execs_app _ _ _ _ _ _ sts2 _ _ (pw2 w os ?_)
 refine wp_execs_app _ _ _ _ _ _ sts3 _ _ (pw3 w os ?_)
 refine wp_execs_app _ _ _ _ _ _ sts4 _ _ (pw4 w os ?_)
 refine wp_execs_app _ _ _ _ _ _ sts5 _ _ (pw5 w os ?_)
 refine wp_execs_app _ _ _ _ _ _ sts6 _ _ (pw6 w os ?_)
 refine wp_execs_app _ _ _ _ _ _ sts7 _ _ (pw7 w os ?_)
 refine wp_execs_app _ _ _ _ _ _ sts8 _ _ (pw8 w os ?_)
 refine wp_execs_app _ _ _ _ _ _ sts9 _ _ (pw9 w os ?_)
 refine wp_execs_app _ _ _ _ _ _ sts10 _ _ (pw10 w os ?_)
 refine wp_execs_app _ _ _ _ _ _ sts11 _ _ (pw11 w os ?_)
 exact H
noncomputable def topTree : Sem Fin := do
 let code ← moduleCode pw.main
 let frame ← newBodyFrame code mainNs mainNs
 let _ ← run (.body (behindTheImports pw) { scope := pw.main.scope, locals := mainNs, globals := mainNs, cells := [], code, frame := some frame })
 ret .none
theorem topTree_stub : topStub pw = ⟨topTree, .builtin "claim.caller" {}, default, []⟩ := rfl
theorem top_wp (w : World) (os : OsState) : Sem.wp (model pw w) Γ0 topTree (Sem.finPost (model pw w) Γ0 (fun r s' => (r = .ok (.ret .none) ∧ s' = (sh14 w.params os).abs) ∧ leftWithCleanup s'.gens = false)) (fun e _ s' => False) default (sh1 w.params os).abs := by
 have h := wp_of_big (pre_big w os) (Q := fun x p s => x = ((.ref 30), 31) ∧ p = ⟨0, 0, 0, 0⟩ ∧ s = (sh2 w.params os).abs) (E := fun _ _ _ => False) ⟨rfl, rfl, rfl⟩
 rw [Sem.wp_bind'] at h
 unfold topTree
 rw [Sem.wp_bind']
 refine Sem.wp_mono _ _ _ (fun code p1 s1 h1 => ?_) (fun _ _ _ e => e.elim) _ _ h
 rw [Sem.wp_bind'] at h1
 rw [Sem.wp_bind']
 refine Sem.wp_mono _ _ _ (fun fr p2 s2 h2 => ?_) (fun _ _ _ e => e.elim) _ _ h1
 rw [Sem.wp_pure'] at h2
 obtain ⟨h2a, rfl, rfl⟩ := h2
 obtain ⟨rfl, rfl⟩ := Prod.mk.inj h2a
 rw [Sem.wp_bind', Sem.wp_run]
 rw [wpCode_iff_wp]
 have hΓ : Γ0.enter (.body (behindTheImports pw) { scope := pw.main.scope, locals := mainNs, globals := mainNs, cells := [], code := (.ref 30), frame := some 31 }) none ⟨0, 0, 0, 0⟩ = Γ1 := by kernel_rfl
 rw [hΓ]
 have hd : (model pw w).den Γ1.code = denote table (.body (behindTheImports pw) envT) := by kernel_rfl
 rw [hd]
 show Sem.wp (model pw w) Γ1 ((blockStart (behindTheImports pw) envT).bind (fun _ => ((execs (behindTheImports pw) envT).onRaise (leaving envT)).bind fun f => (Sem.pure (Fin.done f) : Sem Fin))) _ _ _ _
 rw [Sem.wp_bind]
 have hb : blockStart (behindTheImports pw) envT = pure () := by kernel_rfl
 rw [hb, Sem.wp_pure', Sem.wp_bind, Sem.wp_onRaise]
 refine body_wp w os ?_
 rw [Sem.wp_pure]
 exact ⟨⟨rfl, rfl⟩, by kernel_rfl⟩
end Mine
namespace Mine
open PySem PySem.W PySem.Calls PyProof.Rows
theorem runN_last {den : Code → Sem Fin} {p : Program} {w : World} {o : Outcome} {s' : Shared} : ∀ (n : Nat) (s : Shared) (t : Thread), runN den p w n s t = .halted o s' → ∃ k s₂ t₂, runN den p w k s t = .running s₂ t₂ ∧ step den p w s₂ t₂ = .halt o s'
 | 0, s, t, h => by cases h
 | n + 1, s, t, h => by
  cases hs : step den p w s t with
  | halt o2 s2 =>
   have e : runN den p w (n + 1) s t = .halted o2 s2 := by simp only [runN, hs]
   rw [e] at h
   injection h with h1 h2
   subst h1 h2
   exact ⟨0, s, t, rfl, hs⟩
  | go s2 t2 =>
   have e : runN den p w (n + 1) s t = runN den p w n s2 t2 := by simp only [runN, hs]
   rw [e] at h
   refine x31 (runN_last n s2 t2 h) fun k s3 t3 h1 h2 => ?_
   exact ⟨k + 1, s3, t3, by simp only [runN, hs]; exact h1, h2⟩
noncomputable def notDone : Step → Bool
 | .halt (.done _) _ => false
 | _ => true
theorem finish_done {o : Outcome} (h : ∀ f, o ≠ .done f) (s : Shared) : notDone (finish o s) = true := by
 unfold finish
 cases leftWithCleanup s.gens with
 | true => rfl
 | false => cases o <;> first | rfl | exact absurd rfl (h _)
theorem step_notDone {den : Code → Sem Fin} {p : Program} {w : World} {heap : Heap} {gens : Array GenState} {drawn : Drawn} {toks : Nat} {os : OsState} {cur : Sem Fin} {code : Code} {pos : Pos} {stack : List Frame} (hc : ∀ f, cur ≠ .pure (.done f)) :
 notDone (step den p w ⟨heap, gens, drawn, toks, os⟩ ⟨cur, code, pos, stack⟩) = true := by
 cases cur with
 | pure fin => cases fin with
  | done f => exact absurd rfl (hc f)
  | again c => rfl
 | raise e => cases stack with
  | nil => exact finish_done (fun f q => by cases q) _
  | cons fr r => cases fr <;> rfl
 | unsupported what => rfl
 | finish e =>
  unfold step
  dsimp only
  cases leftWithCleanup gens <;> rfl
 | load a q k =>
  unfold step
  dsimp only
  cases heap.get? a <;> rfl
 | update a q f k =>
  unfold step
  dsimp only
  cases (heap.get? a).isSome <;> rfl
 | choose src n k =>
  unfold step
  dsimp only
  by_cases h : n = 0
  · rw [if_pos h]; rfl
  · rw [if_neg h]; rfl
 | genState g k =>
  unfold step
  dsimp only
  cases gens[g]? <;> rfl
 | resume g r l k =>
  unfold step
  dsimp only
  cases gens[g]? with
  | none => rfl
  | some st => cases st with
   | fresh c => cases r with
    | send v => cases v <;> rfl
    | throw e => rfl
   | suspended kk _ c p frames _ => rfl
   | running => rfl
   | finished => rfl
 | _ =>
  first
  | rfl
  | (unfold step; dsimp only; split <;> rfl)
theorem step_done {den : Code → Sem Fin} {p : Program} {w : World} {f : Flow} {s s' : Shared} {t : Thread} (h : step den p w s t = .halt (.done f) s') : through t = true := by
 obtain ⟨heap, gens, drawn, toks, os⟩ := s
 obtain ⟨cur, code, pos, stack⟩ := t
 by_cases hc : ∀ f, cur ≠ .pure (.done f)
 · have := step_notDone (den := den) (p := p) (w := w) (heap := heap) (gens := gens) (drawn := drawn) (toks := toks) (os := os) (code := code) (pos := pos) (stack := stack) hc
   rw [h] at this
   exact ft this
 · obtain ⟨f2, hf⟩ := Classical.not_forall.mp hc
   obtain rfl := Classical.not_not.mp hf
   cases stack with
   | nil => rfl
   | cons fr r => cases fr <;> cases (show (Step.go _ _ : Step) = _ from h)
noncomputable def ΓC : Ctx := ⟨.builtin "claim.caller" {}, none, none, [], none⟩
theorem through_of_wp {p : Program} {w : World} {t : Sem Fin} {s s₁ : Shared} (hz : s.asleep) (hg : s₁.gens = #[])
 (h : Sem.wp (model p w) ΓC t (Sem.finPost (model p w) ΓC (fun r s' => (r = .ok (.ret .none) ∧ s' = s₁) ∧ leftWithCleanup s'.gens = false)) (fun e _ s' => False) default s) :
 ∃ n t', schedN (denote table) p w n (.single s ⟨t, .builtin "claim.caller" {}, default, []⟩) = .running (.single s₁ t') ∧ through t' = true := by
 have h' : Sem.wp (model p w) ⟨.builtin "claim.caller" {}, none, none, [], none⟩ t (Sem.finPost (model p w) ⟨.builtin "claim.caller" {}, none, none, [], none⟩ (fun r s' => (r = .ok (.ret .none) ∧ s' = s₁) ∧ leftWithCleanup s'.gens = false))
  (fun e _ s' => ((Except.error e : Result) = .ok (.ret .none) ∧ s' = s₁) ∧ leftWithCleanup s'.gens = false) default s :=
  Sem.wp_mono _ _ _ (fun _ _ _ x => x) (fun _ _ _ e => e.elim) _ _ h
 refine x32 ((wp_iff_halts (M := model p w) (c := .builtin "claim.caller" {}) t (fun r s' => r = .ok (.ret .none) ∧ s' = s₁) default s).mp h') fun n r s' hn z1 z2 => ?_; subst z1; subst z2
 refine x12 (runNI_real (denote table) p w hn rfl) fun s'' hr hf hc => ?_
 have hs : s'' = s' := by
  obtain ⟨a, b, c, d, e⟩ := s''
  obtain ⟨a', b', c', d', e'⟩ := s'
  simp only [Shared.forget, Shared.mk.injEq] at hf hg
  subst hg
  obtain ⟨h1, h2, h3, h4, h5⟩ := hf
  simp only [Array.map_empty, Array.map_eq_empty_iff] at h2
  subst h1 h2 h3 h4 h5
  rfl
 subst hs
 have hne : ∀ k s₂, runN (denote table) p w k s ⟨t, .builtin "claim.caller" {}, default, []⟩ ≠ .halted (.unsupported "lifetime:generator-with-cleanup-left-suspended") s₂ := by
  intro k s₂ hk
  have a := runN_mono (denote table) p w n k _ _ _ s'' hr
  have b := runN_mono (denote table) p w k n _ _ _ s₂ hk
  rw [Nat.add_comm, b] at a
  injection a with a1 _
  cases a1
 refine x31 (runN_last n _ _ hr) fun k s₂ t₂ h1 h2 => ?_
 have e := step_halt_same (denote table) p w s₂ s'' t₂ _ h2
 subst e
 exact ⟨k, t₂, (schedN_eq_runN (denote table) p w s _ hz ⟨hc, hne⟩ k).trans (congrArg Run.lift h1), step_done h2⟩
end Mine
namespace Mine
open PySem PySem.W PySem.Challenge PySem.Calls PyProof.Rows
noncomputable abbrev hp0 (P : Params) (os : OsState) : Heap := (sh1 P os).abs.heap
noncomputable abbrev hp1 (P : Params) (os : OsState) : Heap := (sh14 P os).abs.heap
theorem c1 (P : Params) (os : OsState) : (hp1 P os).accountedOkI (importedModules pw.main.body) = true := by kernel_rfl
theorem c2 (P : Params) (os : OsState) : staticsOk (importedModules pw.main.body) (hp0 P os) (hp1 P os) = true := by kernel_rfl
theorem c3 (P : Params) (os : OsState) : namesBound pw (hp1 P os) = true := by kernel_rfl
theorem c4 (P : Params) (os : OsState) : laidKept (hp0 P os) (hp1 P os) = true := by kernel_rfl
theorem c5 (P : Params) (os : OsState) : (hp1 P os).isNs mainGlobals = true := by kernel_rfl
theorem c5b (P : Params) (os : OsState) : (hp1 P os).isNs builtinsNs = true := by kernel_rfl
theorem c6 (P : Params) (os : OsState) : (hp1 P os).bltView = bltViewBooted := by kernel_rfl
theorem c7 (P : Params) (os : OsState) : (hp1 P os).bmainOk = true := by kernel_rfl
theorem c9 (P : Params) : ((List.range 28).map fun b => if b = cStatics ∨ b = mainNs then none else (tr1 P).get b) = (List.range 28).map fun b => if b = cStatics ∨ b = mainNs then none else (tr14 P).get b := by kernel_rfl
theorem abs0 (P : Params) (os : OsState) : (sh1 P os).abs = ⟨absHeap (tr1 P) 28 {}, #[], {}, (sh1 P os).toks, os⟩ := by kernel_rfl
theorem abs1 (P : Params) (os : OsState) : (sh14 P os).abs = ⟨absHeap (tr14 P) 363 {}, #[], {}, 2952, os⟩ := by kernel_rfl
theorem old_kept (P : Params) (os : OsState) (b : Addr) (o : Obj) (h : (hp0 P os).get? b = some o) (hn : ¬ theTopsOwn (hp0 P os) b) : (hp1 P os).get? b = some o := by
 have e0 : hp0 P os = absHeap (tr1 P) 28 {} := by show (sh1 P os).abs.heap = _; rw [abs0]
 have e1 : hp1 P os = absHeap (tr14 P) 363 {} := by show (sh14 P os).abs.heap = _; rw [abs1]
 have hlt : b < 28 := by have := Heap.lt_size h; rw [e0, absHeap_size] at this; exact this
 have hb : ¬ (b = cStatics ∨ b = mainNs) := fun q => hn (q.elim (fun z => .inr (.inl z)) .inl)
 have hg : (tr1 P).get b = (tr14 P).get b := by
  have := congrArg (fun l => l[b]?) (c9 P)
  simp only [List.getElem?_map, List.getElem?_range hlt, Option.map_some, if_neg hb, Option.some.injEq] at this
  exact this
 rw [e0] at h
 rw [e1]
 unfold Heap.get? at h ⊢
 rw [absHeap_at, if_pos hlt] at h
 rw [absHeap_at, if_pos (Nat.lt_of_lt_of_le hlt (by decide)), ← hg]
 exact h
theorem open_ends (w : World) : ∃ os, importEnds table (opening pw) w 800 (start (opening pw)).1 (start (opening pw)).2 = some (sh0 w.params os).abs := by
 refine ⟨(start (opening pw)).1.os, ?_⟩
 have h := impRun_of (open_big w (start (opening pw)).1.os)
 rw [table_eq_tree]
 have e : (start (opening pw)).1 = SharedT.abs ⟨.nil, 0, {}, #[], {}, 1, (start (opening pw)).1.os⟩ := by kernel_rfl
 rw [e]
 exact h
theorem head_ok (w : World) : (∃ s, AfterRun (opening pw) w s) ∧ ∀ s, AfterRun (opening pw) w s → ∃ s₀ os, fenceModules? pw s = some s₀ ∧ s₀ = (sh1 w.params os).abs ∧ TopRan pw w s₀ (sh14 w.params os).abs := by
 obtain ⟨os, h⟩ := open_ends w
 have A := AfterImport.of_importEnds h
 refine ⟨⟨_, A⟩, fun s hs => ?_⟩
 obtain rfl := AfterImport.unique hs A
 refine ⟨_, os, fence_big _ _, rfl, ?_, ?_, ?_, fun b o hb hn => old_kept _ _ b o hb hn, Heap.accountedI_of_ok (c1 _ _), statics_of_ok (c2 _ _), Pin.keysAreStrs_of (c5 _ _), fun x hx => (Pin.builtinOf_eq (c5b _ _) x).trans (Heap.of_bltView (c5b _ _) (c6 _ _) x hx), ?_, ?_, names_of_bound (c3 _ _), laid_of_kept (c4 _ _)⟩
 · rw [topTree_stub]
   have g : Γ0 = ΓC := by kernel_rfl
   have ht := top_wp w os
   rw [g] at ht
   refine through_of_wp ?_ (by rw [abs1]) ht
   rw [abs0]; exact ⟨rfl, rfl⟩
 · rw [abs0, abs1]; rfl
 · exact Shared.rest_eq (by rw [abs0, abs1])
 · obtain ⟨bm, ob, a, _, c, d, f, _⟩ := Heap.bmainOk_spec (c7 w.params os)
   exact ⟨bm, ob, (Pin.globalOf_eq (c5 _ _) _).trans a, c, d, f⟩
 · intro g hg
   rw [abs1] at hg
   cases hg with | mk h => cases h
end Mine
namespace Mine
open PySem PySem.Calls PyProof.Rows PySem.W PySem.Spec PyProof.V PySem.Challenge
noncomputable def btab : List (Str × Value) := [("range", .type "range"), ("len", .builtin "len"), ("chr", .builtin "chr"), ("ord", .builtin "ord"), ("max", .builtin "max"), ("min", .builtin "min"), ("tuple", .type "tuple"), ("str", .type "str"), ("int", .type "int"), ("enumerate", .type "enumerate"), ("zip", .type "zip"), ("all", .builtin "all"), ("list", .type "list"), ("type", .type "type")]
noncomputable def b1L : List Int := [173, 847, 6150, 6155, 6156, 6157, 8203, 8204, 8205, 8288, 65279, 65024, 65025, 65026, 65027, 65028, 65029, 65030, 65031, 65032, 65033, 65034, 65035, 65036, 65037, 65038, 65039]
noncomputable def isB1 (i : Int) : Bool := b1L.any (· == i)
noncomputable def b3D : List (PyData × PyData) := b3L.map fun x => (.int x.1, .str x.2)
noncomputable def exD : List (PyData × PyData) := exL.map fun x => (.str x.1, .int x.2)
structure Wd (C : Cx) : Prop where
 X : (KK C.w.params).In C.h₀
 g : ∀ x v, gtab.lookup x = some v → C.mg x = some v
 n : ∀ x v, btab.lookup x = some v → C.mg x = none
 b : ∀ x v, btab.lookup x = some v → C.mb x = some v
 set : C.h₀.SetOf (intKind C.prog C.w) at_q22 isB1 27
 b3 : IntTab C.prog C.w C.h₀ at_q16 b3D
 ex : StrTab C.prog C.w C.h₀ at_q11 exD
 pn : PatAt C.h₀ at_q9 nameCode
 pv : PatAt C.h₀ at_q8 valueCode
 sm : ∃ o, C.h₀.get? sysModules = some o ∧ o ≠ { cls := .type "dict", data := .dict #[] }
section
variable {C : Cx} {k : Nat} {env : Env} {ρ : Rho}
theorem Ev.g (W : Wd C) {x : Str} {pos : Pos} {v : Value} (hk : env.kindOf x = some .globalImplicit) (hv : gtab.lookup x = some v) (hd : (x == ("__debug__" : Str)) = false := by decide) : Ev C k env ρ (.Name x pos) (.fr (.con v)) := Ev.global hk (W.g x v hv) hd
theorem Ev.b (W : Wd C) {x : Str} {pos : Pos} {v : Value} (hk : env.kindOf x = some .globalImplicit) (hv : btab.lookup x = some v) (hd : (x == ("__debug__" : Str)) = false := by decide) : Ev C k env ρ (.Name x pos) (.fr (.con v)) := Ev.builtin hk (W.n x v hv) (W.b x v hv) hd
theorem cellsFrom_has : ∀ (names : List (Str × NameKind)) (n : Nat) (x : Str), names.lookup x = some .cell → ((cellsFrom n names []).lookup x).isSome = true
 | [], _, _, h => by exact no h
 | (y, kd) :: r, n, x, h => by
  unfold cellsFrom
  rw [List.lookup_cons] at h
  by_cases hy : (x == y) = true
  · rw [hy] at h
    dsimp only at h
    simp only [Option.some.injEq] at h
    subst h
    rw [if_pos (by decide), cellsFrom_app, List.lookup_append]
    have : [(y, n)].lookup x = some n := by simp [List.lookup_cons, hy]
    cases (cellsFrom (n + 1) r []).lookup x <;> simp [this]
  · rw [show (x == y) = false by simpa using hy] at h
    dsimp only at h
    split
    · rw [cellsFrom_app, List.lookup_append]
      have := cellsFrom_has r (n + 1) x h
      cases q : (cellsFrom (n + 1) r []).lookup x with
      | none => rw [q] at this; exact ft this
      | some c => simp
    · exact cellsFrom_has r n x h
noncomputable def refV : Value → Option Addr
 | .ref c => some c
 | _ => none
noncomputable def strV : Value → Option Str
 | .str x _ => some x
 | _ => none
theorem strV_of {v : Value} {x : Str} (h : strV v = some x) : ∃ t, v = .str x t := by
 cases v with
 | str => obtain rfl := si h; exact ⟨_, rfl⟩
 | _ => exact nomatch h
noncomputable def fieldsD : Data → Option (Array Value)
 | .fields vs => some vs
 | _ => none
theorem refV_of {v : Value} {c : Addr} (h : refV v = some c) : v = .ref c := by
 cases v with
 | ref => obtain rfl := si h; rfl
 | _ => exact nomatch h
theorem fieldsD_of {d : Data} {vs : Array Value} (h : fieldsD d = some vs) : d = .fields vs := by
 cases d with
 | fields => obtain rfl := si h; rfl
 | _ => exact nomatch h
noncomputable def codeOk (K : Frag) (fd : FuncData) : Bool := decide (((refV fd.code).bind fun c => (K.lookup c).bind fun o => (fieldsD o.data).bind fun vs => vs[1]?.bind strV) = some fd.qualname)
noncomputable def fdOk (fd : FuncData) (names : List Str) : Bool := (match fd.scope.kind with | .function => true | _ => false) && fd.closure.isEmpty && !fd.scope.isCoroutine && !fd.scope.isGenerator && decide (fd.globals = mainGlobals) && decide (fd.builtins = builtinsNs) &&
 names.all fun x => match fd.scope.names.lookup x with | some .local => true | some .cell => true | _ => false
theorem isDef_of (W : Wd C) {a : Addr} {fd : FuncData} {names : List Str} {body : List Stmt} (h1 : ∀ P, (KK P).lookup a = some ⟨.type "function", none, .func fd, #[]⟩) (h2 : ∀ P, codeOk (KK P) fd = true) (h3 : fdOk fd names = true) (hb : fd.body = .stmts body) : IsDef C a fd names body := by
 unfold fdOk at h3
 simp only [Bool.and_eq_true, List.isEmpty_iff, Bool.not_eq_true', decide_eq_true_eq, List.all_eq_true] at h3
 obtain ⟨⟨⟨⟨⟨⟨k1, k2⟩, k3⟩, k4⟩, k5⟩, k6⟩, k7⟩ := h3
 have nms : ∀ x ∈ names, fd.scope.names.lookup x = some .local ∨ fd.scope.names.lookup x = some .cell := fun x hx => by
  have := k7 x hx
  split at this
  · exact .inl (by assumption)
  · exact .inr (by assumption)
  · exact ft this
 refine ⟨⟨_, W.X _ _ (h1 _), rfl⟩, ?_, hb, k2, ?_, k3, k4, k5, k6, nms, fun L x hx hc => cellsFrom_has _ _ _ hc⟩
 · have := h2 C.w.params
   refine x11 (Option.bind_eq_some_iff.mp (of_decide_eq_true this)) fun c hc h => ?_
   refine x11 (Option.bind_eq_some_iff.mp h) fun o hl h => ?_
   refine x11 (Option.bind_eq_some_iff.mp h) fun vs hv h => ?_
   refine x11 (Option.bind_eq_some_iff.mp h) fun q hq h => ?_
   obtain ⟨t, rfl⟩ := strV_of h
   exact ⟨c, o, vs, t, refV_of hc, W.X _ _ hl, fieldsD_of hv, hq⟩
 · split at k1
   · assumption
   · exact ft k1
end
noncomputable def forT : Stmt → Expr
 | .For t _ _ _ _ => t
 | _ => default
noncomputable def forB : Stmt → List Stmt
 | .For _ _ b _ _ => b
 | .While _ b _ _ => b
 | .If _ b _ _ => b
 | _ => []
noncomputable def nthS (l : List Stmt) (i : Nat) : Stmt := l.getD i (.Pass default)
section
variable {C : Cx} {k : Nat} {env : Env} {ρ ρ1 ρ2 : Rho} {rest body : List Stmt} {l : Loc}
def Ret (C : Cx) (k : Nat) (env : Env) (ρ : Rho) (body : List Stmt) (l : Loc) : Prop := ∃ ρ', Exs C k env ρ body (.ret l) ρ'
theorem Ret.step {st : Stmt} (h : Ex C k env ρ st .next ρ1) (r : Ret C k env ρ1 rest l) : Ret C k env ρ (st :: rest) l := let ⟨ρ', r⟩ := r; ⟨ρ', Exs.cons h r⟩
theorem Ret.stop {st : Stmt} (h : Ex C k env ρ st (.ret l) ρ1) : Ret C k env ρ (st :: rest) l := ⟨ρ1, Exs.stop h (by intro h; cases h)⟩
theorem Ret.ret {e : Expr} {pos : Pos} (h : Ev C k env ρ e l) : Ret C k env ρ (.Return (some e) pos :: rest) l := Ret.stop (Ex.ret h)
theorem Ret.own {x : Str} {px pos : Pos} (hx : ρ x = some l) (hd : (x == ("__debug__" : Str)) = false := by decide) : Ret C k env ρ (.Return (some (.Name x px)) pos :: rest) l := Ret.stop (Ex.retOwn hx hd)
theorem Ret.pre (hle : Rho.le ρ2 ρ) (r : Ret C k env ρ2 body l) : Ret C k env ρ body l := let ⟨ρ', r⟩ := r; ⟨ρ', Exs.pre hle r⟩
theorem Ret.ifRet {t : Expr} {pos : Pos} {b : Bool} (h : Ts C k env ρ t b) (h1 : b = true → Ret C k env ρ body l) (h2 : b = false → Ret C k env ρ rest l) : Ret C k env ρ (.If t body [] pos :: rest) l := by
 cases b with
 | true =>
  obtain ⟨ρ', r⟩ := h1 rfl
  exact Ret.stop (Ex.ite (b := true) h (fun _ => r) (fun q => by exact tf q))
 | false => exact Ret.step (Ex.ite (b := false) (o := .next) h (fun q => by exact ft q) (fun _ => Exs.nil)) (h2 rfl)
theorem PN.ret {a : Addr} {fd : FuncData} {names : List Str} {ps bps : List PV} (F : IsDef C a fd names body) (hb : Binds C fd ps [] [] names bps) (hn : names.length = bps.length)
 (h : ∀ L, Ret C k (callEnvC fd L a) (bindR (names.zip bps) fun _ => none) body l) : PN C (k + 1) (.ref a) ps l := PN.def F hb hn fun L => let ⟨_, r⟩ := h L; BodyW.ret r
end
section
variable {C : Cx} {k : Nat} {env : Env} {rest body : List Stmt}
theorem Loop.find {t : Expr} {inv : Rho} (f : PV → Bool) (g : PV → Loc) : ∀ (xs : List PV), (∀ p ∈ xs, f p = false → ∃ ρ1, As C k env inv t p ρ1 ∧ Exs C k env ρ1 body .next inv) → (∀ p ∈ xs, f p = true → ∃ ρ1, As C k env inv t p ρ1 ∧ Ret C k env ρ1 body (g p)) →
 (match xs.find? f with
 | some p => ∃ ρ', Loop C k env t body xs inv (.ret (g p)) ρ'
 | none => Loop C k env t body xs inv .next inv)
 | [], _, _ => Loop.nil
 | x :: xs, h1, h2 => by
  rw [List.find?_cons]
  cases hx : f x with
  | true =>
   obtain ⟨ρ1, a, ρ2, b⟩ := h2 x List.mem_cons_self hx
   exact ⟨ρ2, Loop.ret a b⟩
  | false =>
   refine x11 (h1 x List.mem_cons_self hx) fun ρ1 a b => ?_
   have ih := Loop.find f g xs (fun p hp => h1 p (List.mem_cons_of_mem _ hp)) (fun p hp => h2 p (List.mem_cons_of_mem _ hp))
   dsimp only
   cases hf : xs.find? f with
   | some p => rw [hf] at ih; obtain ⟨ρ', c⟩ := ih; exact ⟨ρ', Loop.next a b c⟩
   | none => rw [hf] at ih; exact Loop.next a b ih
theorem Ret.forFind {t iter : Expr} {pos : Pos} {L : Loc} {xs : List PV} {inv : Rho} (f : PV → Bool) (g : PV → Loc) {l : Loc} (hi : EvIt C k env inv iter L) (hs : Steps C t L xs) (h1 : ∀ p ∈ xs, f p = false → ∃ ρ1, As C k env inv t p ρ1 ∧ Exs C k env ρ1 body .next inv)
 (h2 : ∀ p ∈ xs, f p = true → ∃ ρ1, As C k env inv t p ρ1 ∧ Ret C k env ρ1 body (g p)) (h3 : xs.find? f = none → Ret C k env inv rest l) (hf : ∀ x, foldedSetIterable iter env x = pure x := by intro _; rfl) :
 Ret C k env inv (.For t iter body [] pos :: rest) (match xs.find? f with | some p => g p | none => l) := by
 have ih := Loop.find (C := C) (k := k) (env := env) (body := body) f g xs h1 h2
 cases hx : xs.find? f with
 | some p =>
  rw [hx] at ih
  obtain ⟨ρ', c⟩ := ih
  exact Ret.stop (Ex.forL hi (LoopL.of hs c) hf)
 | none =>
  rw [hx] at ih
  exact Ret.step (Ex.forL hi (LoopL.of hs ih) hf) (h3 hx)
end
theorem len1 {α : Type} {vs : List α} (h : vs.length = 1) : ∃ a, vs = [a] := by
 cases vs with
 | nil => cases h
 | cons a r => cases r with | nil => exact ⟨a, rfl⟩ | cons b r => cases h
theorem len2 {α : Type} {vs : List α} (h : vs.length = 2) : ∃ a b, vs = [a, b] := by
 cases vs with
 | nil => cases h
 | cons a r => obtain ⟨b, rfl⟩ := len1 (Nat.succ.inj h); exact ⟨a, b, rfl⟩
theorem len3 {α : Type} {vs : List α} (h : vs.length = 3) : ∃ a b c, vs = [a, b, c] := by
 cases vs with
 | nil => cases h
 | cons a r => refine x20 (len2 (Nat.succ.inj h)) fun b c z1 => ?_; subst z1; exact ⟨a, b, c, rfl⟩
noncomputable def ofL (l : List (Str × Loc)) : Rho := fun x => l.lookup x
def LeL : List (Str × Loc) → Rho → Prop
 | [], _ => True
 | p :: r, ρ => ρ p.1 = some p.2 ∧ LeL r ρ
theorem LeL.le : ∀ {l : List (Str × Loc)} {ρ : Rho}, LeL l ρ → Rho.le (ofL l) ρ
 | [], ρ, _ => fun x y e => by exact no e
 | (n, q) :: r, ρ, ⟨h1, h2⟩ => fun x y e => by
  unfold ofL at e
  rw [List.lookup_cons] at e
  by_cases hx : (x == n) = true
  · rw [hx] at e
    dsimp only at e
    obtain rfl := eq_of_beq hx
    rw [← e]; exact h1
  · rw [show (x == n) = false by simpa using hx] at e
    exact LeL.le h2 x y e
noncomputable abbrev ρ0 : Rho := fun _ => none
noncomputable abbrev signs (x : Str) : List PV := x.cps.toList.map fun c => .str ⟨#[c]⟩
local macro_rules | `(tactic| walk_at "side") => `(tactic| first | assumption | decide | omega | (simp; done) | (simp; omega) | (rw [sizeLine_eq]; omega) | (rw [sizeLine_eq]; simp; omega))
local macro_rules | `(tactic| walk_at "p2") => `(tactic| first
 | exact .addI | exact .subI | exact .eqS | exact .neS | exact .eqI | exact .neI | exact .ltI | exact .leI | exact .gtI | exact .geI | exact .andI
 | exact .modI (by walk_at "side") | exact .divI (by walk_at "side") (divSmall (by walk_at "side")) | exact .mulI (IntMulOk.of_left (by decide)) | exact .mulI (IntMulOk.of_right (by decide))
 | exact .mulI (IntMulOk.of_right (PySem.intBits_le_64 (by walk_at "side") (by walk_at "side"))) | exact .mulI (IntMulOk.of_left (PySem.intBits_le_64 (by walk_at "side") (by walk_at "side")))
 | exact .addS (by walk_at "side") | exact .addL (by walk_at "side") | exact .rshI (by walk_at "side") | exact .neNil | exact .inI | exact .notInI | exact .inS
 | exact .powI (by walk_at "side") (by walk_at "side") (by decide))
local macro_rules | `(tactic| walk_at "pt") => `(tactic| first | exact .bool | exact .int | exact .none)
local macro_rules | `(tactic| walk_at "idx") => `(tactic| first
 | exact .tup (by walk_at "side") (by walk_at "side") rfl rfl
 | exact .lst (by walk_at "side") (by walk_at "side") rfl
 | exact .lst (by walk_at "side") (by walk_at "side") (by first | assumption | (simp; done) | (simp; omega)))
local macro_rules | `(tactic| walk_at "ev") => `(tactic| first
 | exact .intC | exact .strC | exact .noneC | exact .boolC | exact .name rfl | exact .b (by assumption) rfl rfl | exact .g (by assumption) rfl rfl
 | (refine' .binop ?ea ?eb ?ec; (case ea => walk_at "ev"); (case eb => walk_at "ev"); (case ec => walk_at "p2"))
 | (refine' .compare1 ?ea ?eb ?ec; (case ea => walk_at "ev"); (case eb => walk_at "ev"); (case ec => walk_at "p2"))
 | (refine' .item ?ea ?eb ?ec; (case ea => walk_at "ev"); (case eb => walk_at "ev"); (case ec => walk_at "idx"))
 | (refine' .tuple ?ea; (case ea => walk_at "evl"))
 | (refine' .neg ?ea; (case ea => walk_at "ev"))
 | (refine' .callB ?ea ?eb ?ec; (case ea => walk_at "ev"); (case eb => walk_at "evl"); (case ec => walk_at "pn"))
 | (refine' .callT ?ea ?eb ?ec; (case ea => walk_at "ev"); (case eb => walk_at "evl"); (case ec => walk_at "pn"))
 | exact .list .nil)
local macro_rules | `(tactic| walk_at "pn") => `(tactic| first
 | exact .ord | exact .max2 | exact .chr (by walk_at "side") (by walk_at "side") | exact .lenL (by walk_at "side") | exact .lenS (by walk_at "side") | exact .lenT (by walk_at "side") | exact .tupleL (by walk_at "side"))
local macro_rules | `(tactic| walk_at "evx") => `(tactic| first
 | walk_at "ev"
 | (refine' .snap ?ea ?eb; (case ea => walk_at "ev"); (case eb => rfl)))
local macro_rules | `(tactic| walk_at "evl") => `(tactic| first
 | exact .nil
 | (refine' .cons ?ea ?eb; (case ea => walk_at "ev"); (case eb => walk_at "evl")))
local macro_rules | `(tactic| walk_at "ts") => `(tactic| first
 | (refine' .compare1 ?ea ?eb ?ec ?ed; (case ea => walk_at "evx"); (case eb => walk_at "evx"); (case ec => walk_at "p2"); (case ed => walk_at "pt"))
 | (refine' .not ?ea; (case ea => walk_at "ts"))
 | (refine' .val ?ea ?eb; (case ea => walk_at "ev"); (case eb => walk_at "pt")))
local macro_rules | `(tactic| walk_at "st") => `(tactic| first
 | exact .inl rfl
 | exact .inr ⟨rfl, _, rfl, Nat.lt_succ_self _⟩
 | exact .inr ⟨rfl, _, rfl, Nat.lt_succ_of_lt (Nat.lt_succ_self _)⟩
 | exact .inr ⟨rfl, _, rfl, Nat.lt_succ_of_lt (Nat.lt_succ_of_lt (Nat.lt_succ_self _))⟩
 | exact .inr ⟨rfl, _, rfl, Nat.lt_succ_of_lt (Nat.lt_succ_of_lt (Nat.lt_succ_of_lt (Nat.lt_succ_self _)))⟩
 | exact .inr ⟨rfl, _, rfl, Nat.lt_succ_of_lt (Nat.lt_succ_of_lt (Nat.lt_succ_of_lt (Nat.lt_succ_of_lt (Nat.lt_succ_self _))))⟩
 | exact .inr ⟨rfl, _, rfl, Nat.lt_succ_of_lt (Nat.lt_succ_of_lt (Nat.lt_succ_of_lt (Nat.lt_succ_of_lt (Nat.lt_succ_of_lt (Nat.lt_succ_self _)))))⟩)
section
variable {C : Cx} {k : Nat}
noncomputable def colStep (size : Int) (col : Int) (p : PV) : Int := match p with
 | .str x => if x == (" " : Str) then col + 1 else (col.fdiv size + 1) * size
 | _ => col
noncomputable def colOf (lead : Str) (size : Int) : Int := (signs lead).foldl (colStep size) 0
noncomputable def colsOf (lead : Str) : List Int := (List.range 7).map fun (i : Nat) => colOf lead ((i : Int) + 1)
theorem columns_spec (W : Wd C) (lead : Str) (hlen : lead.length ≤ 1000) : PN C (k + 1) (.ref fn_q13) [.str lead] (.ol ((colsOf lead).map .int)) := by
 have F : IsDef C fn_q13 fd_q13 ["lead"] (bodyOf st_q13) := isDef_of W (fun P => by kernel_rfl) (fun P => by kernel_rfl) (by kernel_rfl) rfl
 refine PN.def F (Binds.plain fun vs hv => ?_) rfl fun L => ?_
 · obtain ⟨v, rfl⟩ := len1 hv; rfl
 let inv : List PV → Rho := fun told => upd (upd ρ0 "lead" (.fr (.str lead))) "told" (.ol told)
 let step : List PV → PV → List PV := fun told p => told ++ [match p with | .int i => .int (colOf lead i) | _ => .none]
 have key : ∃ ρ', Exs C k (callEnvC fd_q13 L fn_q13) (upd ρ0 "lead" (.fr (.str lead))) (bodyOf st_q13) (.ret (.ol ((colsOf lead).map .int))) ρ' := by
  refine ⟨_, Exs.cons (ρ' := inv []) (Ex.assign (by walk_at "ev") (.inl rfl)) (Exs.cons (Ex.forL (EvIt.range2 (n := 7) (by walk_at "ev") (by walk_at "ev") (by walk_at "ev") (by rfl) (by rfl)) (LoopL.foldI inv step (fun xs told => told.length + xs.length ≤ 7 ∧ ∀ p ∈ xs, ∃ i : Int, p = .int i ∧ 1 ≤ i ∧ i ≤ 7) (rangeP 1 7) _ [] Steps.name ?_ ?_)) (Exs.stop (Ex.retOwn (l := .ol _) rfl) (by intro h; cases h)))⟩
  · refine ⟨by simp [rangeP], fun p hp => ?_⟩
    simp only [rangeP, List.mem_map, List.mem_range] at hp
    refine x11 hp fun j hj z1 => ?_; clear hp; subst z1
    exact ⟨_, rfl, by omega, by omega⟩
  rintro told p xs ⟨hlt, hxs⟩
  refine x12 (hxs _ List.mem_cons_self) fun i z1 h1 h7 => ?_; subst z1
  refine ⟨⟨by simp [step] at hlt ⊢; omega, fun q hq => hxs q (List.mem_cons_of_mem _ hq)⟩, _, As.name (.inl rfl), ?_⟩
  let inv2 : Int → Rho := fun col => upd (upd (inv told) "size" (.fr (.int i))) "column" (.fr (.int col))
  refine Exs.cons (ρ' := inv2 0) (Ex.assign (by walk_at "ev") (.inl rfl)) (Exs.cons (ρ' := inv2 (colOf lead i)) (Ex.forL (EvIt.of (by walk_at "ev") Iter.str) (LoopL.fold inv2 (colStep i) (signs lead) _ 0 Steps.name ?_)) (Exs.cons (ρ' := upd (inv2 (colOf lead i)) "told" (.ol (told ++ [.int (colOf lead i)]))) (Ex.append rfl (fun b => by walk_at "ev") ?_) ?_))
  · intro col p hp
    refine x11 (List.mem_map.mp hp) fun c hc z1 => ?_; subst z1
    have e : colStep i col (.str ⟨#[c]⟩) = if ((⟨#[c]⟩ : Str) == (" " : Str)) = true then col + 1 else (col.fdiv i + 1) * i := rfl
    refine ⟨_, As.name (.inl rfl), Exs.cons (Ex.assign (l := .fr (.int (colStep i col (.str ⟨#[c]⟩)))) (Ev.ifExp (by walk_at "ts") (fun h => ?_) (fun h => ?_)) (.inl rfl)) (Exs.post ?_ Exs.nil)⟩
    · rw [e, if_pos h]
      walk_at "ev"
    · rw [e, if_neg (by rw [h]; decide)]
      walk_at "ev"
    · exact Rho.le.upd2 (.upd (.upd .refl (.inl rfl)) (.inl rfl))
  · simp at hlt; rw [sizeLine_eq]; omega
  · exact Exs.post (ρ2 := inv (step told (.int i))) (by exact Rho.le.upd2 (.upd (.upd (.upd .refl (.inl rfl)) (.inl rfl)) (.inl rfl))) Exs.nil
 obtain ⟨ρ', h⟩ := key
 exact BodyW.ret h
end
section
variable {C : Cx} {k : Nat}
theorem b1_spec (W : Wd C) (c : Nat) : PN C (k + 1) (.ref fn_q18) [.str ⟨#[c]⟩] (.fr (.bool (isB1 c))) := by
 have F : IsDef C fn_q18 fd_q18 ["code"] (bodyOf st_q18) := isDef_of W (fun P => by kernel_rfl) (fun P => by kernel_rfl) (by kernel_rfl) rfl
 refine PN.ret F (Binds.plain fun vs hv => ?_) rfl fun L => ?_
 · obtain ⟨v, rfl⟩ := len1 hv; rfl
 exact Ret.ret (Ev.compare1 (Ev.callB (by walk_at "ev") (by walk_at "evl") PN.ord) (by walk_at "ev") (P2.inSetI W.set))
noncomputable def b3f (c : Int) : Option Str := (b3L.find? fun x => x.1 == c).map (·.2)
theorem b3_lookup (c : Int) : Spec.lookup (.int c) b3D = (b3f c).map .str := by
 unfold b3D b3f
 induction b3L with
 | nil => rfl
 | cons x r ih =>
  simp only [List.map_cons, Spec.lookup, List.find?_cons]
  have e : Spec.same (.int x.1) (.int c) = (x.1 == c) := by simp [Spec.same]
  rw [e]
  cases x.1 == c with
  | true => rfl
  | false => simpa using ih
noncomputable def lowS (x : Str) : Str := ⟨placed x fun i _ => Unicode.lowerAt x.cps i⟩
noncomputable def b3 (c : Nat) : Str := (b3f c).getD (lowS ⟨#[c]⟩)
theorem b3_spec (W : Wd C) (c : Nat) (hlow : (lowS ⟨#[c]⟩).length ≤ 10) : PN C (k + 1) (.ref fn_q17) [.str ⟨#[c]⟩] (.fr (.str (b3 c))) := by
 have F : IsDef C fn_q17 fd_q17 ["code"] (bodyOf st_q17) := isDef_of W (fun P => by kernel_rfl) (fun P => by kernel_rfl) (by kernel_rfl) rfl
 refine PN.ret F (Binds.plain fun vs hv => ?_) rfl fun L => ?_
 · obtain ⟨v, rfl⟩ := len1 hv; rfl
 have hl := b3_lookup c
 refine Ret.step (Ex.assign (Ev.getTabI (by walk_at "ev") (Ev.callB (by walk_at "ev") (by walk_at "evl") PN.ord) W.b3 (by rw [hl]; cases b3f c <;> rfl)) (.inl rfl)) ?_
 rw [hl]
 unfold b3
 cases hb : b3f c with
 | some x => exact Ret.ifRet (b := true) (Ts.compare1 (by walk_at "ev") (by walk_at "ev") P2.isNotNoneStr .bool) (fun _ => Ret.ret (by walk_at "ev")) (fun h => by exact tf h)
 | none =>
  refine Ret.ifRet (b := false) (Ts.compare1 (by walk_at "ev") (by walk_at "ev") P2.isNotNoneNone .bool) (fun h => by exact ft h) (fun _ => Ret.ret (Ev.lower (by walk_at "ev") ?_ ?_))
  · have : (lowS ⟨#[c]⟩).length = (placed (⟨#[c]⟩ : Str) fun i _ => Unicode.lowerAt (⟨#[c]⟩ : Str).cps i).size := rfl
    rw [this] at hlow
    unfold Builtin.Str.tooLong
    exact decide_eq_false (by rw [sizeLine_eq]; omega)
  · have : (lowS ⟨#[c]⟩).length = (⟨placed (⟨#[c]⟩ : Str) fun i _ => Unicode.lowerAt (⟨#[c]⟩ : Str).cps i⟩ : Str).length := rfl
    rw [← this, sizeLine_eq]; omega
end
section
variable {C : Cx} {k : Nat}
theorem ws_cls (P : Params) : ClsOk (KK P) cl_q4 := clsOk.of (by kernel_rfl)
theorem hd_cls (P : Params) : ClsOk (KK P) cl_q5 := clsOk.of (by kernel_rfl)
theorem ws_raw (P : Params) : findIn (KK P) (.ref cl_q4) "raw" = some none := by kernel_rfl
theorem ws_n (P : Params) : findIn (KK P) (.ref cl_q4) "n" = some none := by kernel_rfl
theorem ws_nt (P : Params) : findIn (KK P) (.ref cl_q4) "nt" = some none := by kernel_rfl
theorem ws_norm (P : Params) : findIn (KK P) (.ref cl_q4) "norm" = some none := by kernel_rfl
theorem ws_simple (P : Params) : findIn (KK P) (.ref cl_q4) "is_simple" = some none := by kernel_rfl
noncomputable def strVal (r : Option CFound) (x : Str) : Bool := match r with
 | some (.val (.str y _)) => decide (y = x)
 | _ => false
theorem strVal.of {r : Option CFound} {x : Str} (h : strVal r x = true) : ∃ t, r = some (.val (.str x t)) := by
 unfold strVal at h
 split at h
 · rename_i y t
   rw [of_decide_eq_true h]; exact ⟨t, rfl⟩
 · exact ft h
theorem ws_S (P : Params) : strVal (findCls (KK P) (.ref cl_q4) (.type "type") "S") " " = true := by kernel_rfl
theorem ws_T (P : Params) : strVal (findCls (KK P) (.ref cl_q4) (.type "type") "T") "\t" = true := by kernel_rfl
theorem ws_reads (P : Params) : readsIn (KK P) cl_q4 (.type "type") = true := by kernel_rfl
theorem ws_keep (P : Params) : keepIn (KK P) (.ref cl_q4) = true := by kernel_rfl
theorem ws_ini (P : Params) : findIn (KK P) (.ref cl_q4) "__init__" = some (some (.ref fn_q3)) := by kernel_rfl
theorem ws_iniT (P : Params) : typeIn (KK P) (.ref fn_q3) = some (.type "function") := by kernel_rfl
noncomputable def bump (count : List Int) (b : Nat) : List Int :=
 let c := if count.length ≤ b then count ++ List.replicate (b - count.length + 1) 0 else count
 c.set b (c.getD b 0 + 1)
noncomputable def wsGo : List Nat → List Int → Nat → Nat → Nat → List Int × Nat × Nat × Nat
 | [], count, b, n, nt => (count, b, n, nt)
 | c :: r, count, b, n, nt => if c = 32 then wsGo r count (b + 1) (n + 1) nt else if c = 9 then wsGo r (bump count b) 0 (n + 1) (nt + 1) else (count, b, n, nt)
noncomputable def wsOf (x : Str) : List Int × Nat × Nat × Nat := wsGo x.cps.toList [] 0 0 0
noncomputable abbrev wsNames : List Str := ["raw", "n", "nt", "norm", "is_simple"]
noncomputable def wsVals (x : Str) (w : List Int × Nat × Nat × Nat) : List PV := [.str x, .int (w.2.2.1 : Nat), .int (w.2.2.2 : Nat), .tup [.tup (w.1.map .int), .int (w.2.1 : Nat)], .bool (decide ((w.1.length : Int) ≤ 1))]
noncomputable def wsP (x : Str) : PV := .inst cl_q4 wsNames (wsVals x (wsOf x))
theorem bump_length (count : List Int) (b : Nat) : (bump count b).length = max count.length (b + 1) := by
 unfold bump
 dsimp only
 rw [List.length_set]
 split
 · rename_i h; rw [List.length_append, List.length_replicate, Nat.max_eq_right (Nat.le_succ_of_le h), ← Nat.add_assoc, Nat.add_sub_cancel' h]
 · rename_i h; exact (Nat.max_eq_left (Nat.lt_of_not_le h)).symm
theorem getD_map {xs : List Int} {j : Nat} (h : j < xs.length) : (xs.map PV.int)[j]? = some (.int (xs.getD j 0)) := by
 simp [List.getD, h]
theorem wsGo_len : ∀ (cs : List Nat) (count : List Int) (b n nt : Nat), b + cs.length ≤ 1000 → count.length ≤ 1001 → (wsGo cs count b n nt).1.length ≤ 1001
 | [], count, b, n, nt, _, h => h
 | c :: r, count, b, n, nt, hb, h => by
  simp only [List.length_cons] at hb
  unfold wsGo
  split
  · exact wsGo_len r _ _ _ _ (by omega) h
  · split
    · exact wsGo_len r _ _ _ _ (by omega) (by rw [bump_length]; omega)
    · exact h
theorem one_ne {c : Nat} (h : c ≠ 32) : (⟨#[c]⟩ : Str) ≠ " " := by
 have e : (" " : Str) = ⟨#[32]⟩ := by decide +kernel
 rw [e]; intro q; injection q with q; simp at q; exact h q
theorem one_ne9 {c : Nat} (h : c ≠ 9) : (⟨#[c]⟩ : Str) ≠ "\t" := by
 have e : ("\t" : Str) = ⟨#[9]⟩ := by decide +kernel
 rw [e]; intro q; injection q with q; simp at q; exact h q
noncomputable abbrev wsL (x : Str) (a : Addr) (ns : List Str) (ps : List PV) (w : List Int × Nat × Nat × Nat) : List (Str × Loc) :=
 [("self", .ins (some a) cl_q4 ns ps), ("ws", .fr (.str x)), ("S", .fr (.str " ")), ("T", .fr (.str "\t")), ("count", .ol (w.1.map .int)), ("b", .fr (.int (w.2.1 : Nat))), ("n", .fr (.int (w.2.2.1 : Nat))), ("nt", .fr (.int (w.2.2.2 : Nat)))]
theorem ws_init (W : Wd C) (x : Str) (hx : x.length ≤ 1000) : ∀ L a, BodyW C k (callEnvC fd_q3 L fn_q3) (bindR ((["self", "ws"] : List Str).zip [PV.con (.ref a), PV.str x]) fun _ => none) (.ins (some a) cl_q4 [] []) (.one (.ref a)) (bodyOf st_q3) (.fr .none) (.ins (some a) cl_q4 wsNames (wsVals x (wsOf x))) := by
 intro L a
 have X := W.X
 have O := ws_cls C.w.params
 obtain ⟨t1, hS⟩ := (ws_S C.w.params) |> strVal.of
 obtain ⟨t2, hT⟩ := (ws_T C.w.params) |> strVal.of
 refine BodyW.ownN (x := "self") (ρ' := ofL [("self", .ins (some a) cl_q4 wsNames (wsVals x (wsOf x)))]) rfl ?_ rfl (fun kp h v ow r => hasAddr.ins _ _ _ _ _ r)
 refine Exs.cons (Ex.setAttr (by walk_at "ev") rfl X O (ws_raw _) (by simp)) ?_
 refine Exs.cons (Ex.assignSwap2 (x := "S") (y := "T") (Ev.tuple (EvL.cons (Ev.clsAttr (by walk_at "ev") X (ws_reads _) hS rfl fun _ => .str _ _) (EvL.cons (Ev.clsAttr (by walk_at "ev") X (ws_reads _) hT rfl fun _ => .str _ _) EvL.nil))) (.inl rfl) (.inl rfl)) ?_
 refine Exs.cons (Ex.assign (by walk_at "ev") (.inl rfl)) ?_
 refine Exs.cons (Ex.assign3 (by walk_at "ev") (.inl rfl) (.inl rfl) (.inl rfl)) ?_
 refine Exs.pre (ρ2 := ofL (wsL x a ["raw"] [.str x] ([], 0, 0, 0))) (LeL.le ⟨rfl, rfl, rfl, rfl, rfl, rfl, rfl, rfl, trivial⟩) ?_
 refine Exs.cons (ρ' := ofL (wsL x a ["raw"] [.str x] (wsOf x))) (Ex.forL (EvIt.of (Ev.snap (Ev.attr (by walk_at "ev") X O (ws_raw _) rfl) rfl) Iter.str) (LoopL.of Steps.name ?_)) ?_
 · have hlen : x.cps.toList.length ≤ 1000 := by simpa [Str.length] using hx
   let R : List Int × Nat × Nat × Nat → Rho := fun w => ofL (wsL x a ["raw"] [.str x] w)
   have go : ∀ (cs : List Nat) (count : List Int) (b n nt : Nat), b + cs.length ≤ 1000 → count.length ≤ 1001 → Loop C k (callEnvC fd_q3 L fn_q3) (forT (nthS (bodyOf st_q3) 4)) (forB (nthS (bodyOf st_q3) 4)) (cs.map fun c => PV.str ⟨#[c]⟩) (ofL (wsL x a ["raw"] [.str x] (count, b, n, nt))) .next (ofL (wsL x a ["raw"] [.str x] (wsGo cs count b n nt))) := by
    intro cs
    induction cs with
    | nil => intro count b n nt _ _; exact Loop.nil
    | cons c cs ih =>
     intro count b n nt hb hc
     simp only [List.length_cons] at hb
     rw [List.map_cons]
     by_cases h32 : c = 32
     · subst h32
       refine Loop.next (ρ2 := R (count, b + 1, n + 1, nt)) (As.name (.inl rfl)) (Exs.cons (Ex.ite (ρ' := R (count, b + 1, n + 1, nt)) (b := true) (o := .next) (Ts.compare1 (by walk_at "ev") (by walk_at "ev") P2.eqS .bool) (fun _ => Exs.cons (Ex.assign (by walk_at "ev") (.inl rfl)) (Exs.cons (Ex.assign (by walk_at "ev") (.inl rfl)) (Exs.post (LeL.le ⟨rfl, rfl, rfl, rfl, rfl, rfl, rfl, rfl, trivial⟩) Exs.nil))) (fun h => by exact tf h)) Exs.nil) ?_
       have e : wsGo (32 :: cs) count b n nt = wsGo cs count (b + 1) (n + 1) nt := by simp [wsGo]
       rw [e]
       exact ih _ _ _ _ (by omega) hc
     · by_cases h9 : c = 9
       · subst h9
         have e : wsGo (9 :: cs) count b n nt = wsGo cs (bump count b) 0 (n + 1) (nt + 1) := by simp [wsGo]
         rw [e]
         refine Loop.next (ρ2 := R (bump count b, 0, n + 1, nt + 1)) (As.name (.inl rfl)) (Exs.cons (Ex.ite (ρ' := R (bump count b, 0, n + 1, nt + 1)) (b := false) (o := .next) (Ts.compare1 (by walk_at "ev") (by walk_at "ev") P2.eqS .bool) (fun h => by exact ft h) (fun _ => Exs.cons (Ex.ite (ρ' := R (bump count b, 0, n + 1, nt + 1)) (b := true) (o := .next) (Ts.compare1 (by walk_at "ev") (by walk_at "ev") P2.eqS .bool) (fun _ => ?_) (fun h => by exact tf h)) Exs.nil)) Exs.nil) (ih _ _ _ _ (by omega) (by rw [bump_length]; omega))
         refine Exs.cons (Ex.assign (by walk_at "ev") (.inl rfl)) (Exs.cons (Ex.assign (by walk_at "ev") (.inl rfl)) ?_)
         let cnt : List Int := if count.length ≤ b then count ++ List.replicate (b - count.length + 1) 0 else count
         refine Exs.cons (ρ' := R (cnt, b, n + 1, nt + 1)) ?_ ?_
         · by_cases hb' : count.length ≤ b
           · have ec : cnt = count ++ List.replicate (b - count.length + 1) 0 := if_pos hb'
             rw [ec]
             have ex : (((b : Nat) : Int) - ((count.map PV.int).length : Int) + 1).toNat = b - count.length + 1 := by rw [List.length_map, ← Int.ofNat_sub hb']; rfl
             refine Ex.ite (b := decide (((count.map PV.int).length : Int) ≤ (b : Nat))) (o := .next) (by walk_at "ts") (fun _ => ?_) (fun h => ?_)
             · refine Exs.cons (Ex.assign (l := .ol ((count ++ List.replicate (b - count.length + 1) 0).map .int)) ?_ (.inl rfl)) (Exs.post (LeL.le ⟨rfl, rfl, rfl, rfl, rfl, rfl, rfl, rfl, trivial⟩) Exs.nil)
               have el : (count ++ List.replicate (b - count.length + 1) 0).map PV.int = count.map .int ++ (List.replicate (((b : Nat) : Int) - ((count.map PV.int).length : Int) + 1).toNat [PV.int 0]).flatten := by
                rw [ex]; simp
               rw [el]
               refine Ev.snap (Ev.binop (by walk_at "ev") (Ev.freeze (Ev.binop (Ev.freeze (Ev.list (EvL.cons (by walk_at "ev") EvL.nil))) (by walk_at "ev") (P2.mulL (by simp) (by simp; omega) (by simp; omega) (by simp; omega)))) (P2.addL ?_)) ?_
               · rw [ex, sizeLine_eq]; simp; omega
               · rw [← el]; simp [flatL, flatT, flatP]
             · exfalso; simp at h; omega
           · have ec : cnt = count := if_neg hb'
             rw [ec]
             refine Ex.ite (b := decide (((count.map PV.int).length : Int) ≤ (b : Nat))) (o := .next) (by walk_at "ts") (fun h => ?_) (fun _ => Exs.post (LeL.le ⟨rfl, rfl, rfl, rfl, rfl, rfl, rfl, rfl, trivial⟩) Exs.nil)
             exfalso; simp at h; omega
         · have hcl : b < cnt.length := by
            show b < (if count.length ≤ b then count ++ List.replicate (b - count.length + 1) 0 else count).length
            split
            · simp; omega
            · omega
           have eb : bump count b = cnt.set b (cnt.getD b 0 + 1) := rfl
           have hget : (cnt.map PV.int)[((b : Nat) : Int).toNat]? = some (.int (cnt.getD b 0)) := getD_map hcl
           refine Exs.cons (Ex.setItem (xs := cnt.map .int) rfl (p := .int (cnt.getD b 0 + 1)) (Ev.snap (Ev.binop (Ev.item (by walk_at "ev") (by walk_at "ev") (Pidx.lst (by omega) (by omega) hget)) (by walk_at "ev") P2.addI) rfl) (fun b' => by walk_at "ev") (Int.natCast_nonneg b) (show ((b : Nat) : Int) < 2 ^ 63 by omega) (show ((b : Nat) : Int) < ((cnt.map PV.int).length : Nat) by rw [List.length_map]; omega)) ?_
           refine Exs.cons (Ex.assign (by walk_at "ev") (.inl rfl)) ?_
           rw [eb]
           have em : (cnt.map PV.int).set ((b : Nat) : Int).toNat (.int (cnt.getD b 0 + 1)) = (cnt.set b (cnt.getD b 0 + 1)).map .int := by rw [List.map_set]; rfl
           rw [em]
           exact Exs.post (LeL.le ⟨rfl, rfl, rfl, rfl, rfl, rfl, rfl, rfl, trivial⟩) Exs.nil
       · have e : wsGo (c :: cs) count b n nt = (count, b, n, nt) := by simp [wsGo, h32, h9]
         rw [e]
         have n32 : ((⟨#[c]⟩ : Str) == " ") = false := beq_eq_false_iff_ne.mpr (one_ne h32)
         have n9 : ((⟨#[c]⟩ : Str) == "\t") = false := beq_eq_false_iff_ne.mpr (one_ne9 h9)
         refine Loop.brk (ρ2 := R (count, b, n, nt)) (As.name (.inl rfl)) (Exs.stop (Ex.ite (ρ' := R (count, b, n, nt)) (b := false) (o := .brk) (Ts.compare1 (by walk_at "ev") (by walk_at "ev") P2.eqS (by rw [n32]; exact .bool)) (fun h => by exact ft h) (fun _ => Exs.stop (Ex.ite (ρ' := R (count, b, n, nt)) (b := false) (o := .brk) (Ts.compare1 (by walk_at "ev") (by walk_at "ev") P2.eqS (by rw [n9]; exact .bool)) (fun h => by exact ft h) (fun _ => Exs.stop (Ex.post (LeL.le ⟨rfl, rfl, rfl, rfl, rfl, rfl, rfl, rfl, trivial⟩) Ex.brk) (by intro h; cases h))) (by intro h; cases h))) (by intro h; cases h))
   exact go _ _ _ _ _ (by omega) (by simp)
 · have hl1 : (wsOf x).1.length ≤ 1001 := by
    have hlen : x.cps.toList.length ≤ 1000 := by simpa [Str.length] using hx
    exact wsGo_len _ _ _ _ _ (by omega) (by simp)
   refine Exs.freeze (x := "count") (l := .ol ((wsOf x).1.map .int)) rfl rfl ?_
   refine Exs.cons (Ex.setAttr (by walk_at "ev") rfl X O (ws_n _) (by decide)) ?_
   refine Exs.cons (Ex.setAttr (by walk_at "ev") rfl X O (ws_nt _) (by decide)) ?_
   refine Exs.cons (Ex.setAttr (p := .tup [.tup ((wsOf x).1.map .int), .int ((wsOf x).2.1 : Nat)]) (Ev.tuple (EvL.cons (Ev.callT (by walk_at "ev") (by walk_at "evl") (PN.tupleL (by rw [List.length_map, sizeLine_eq]; omega))) (EvL.cons (by walk_at "ev") EvL.nil)) (by simp [sizeLine_eq])) rfl X O (ws_norm _) (by decide)) ?_
   have el : (((wsOf x).1.map PV.int).length : Int) = ((wsOf x).1.length : Int) := by rw [List.length_map]
   refine Exs.cons (Ex.setAttr (p := .bool (decide (((wsOf x).1.length : Int) ≤ 1))) (by rw [← el]; exact Ev.compare1 (Ev.callB (by walk_at "ev") (by walk_at "evl") (PN.lenL (by rw [List.length_map]; omega))) (by walk_at "ev") P2.leI) rfl X O (ws_simple _) (by decide)) ?_
   exact Exs.post (LeL.le ⟨rfl, trivial⟩) Exs.nil
end
section
variable {C : Cx} {k : Nat}
noncomputable abbrev WsT := List Int × Nat × Nat × Nat
noncomputable abbrev wsV (x : Str) (w : WsT) : PV := .inst cl_q4 wsNames (wsVals x w)
noncomputable def lrOf (w : WsT) : Int := if (w.2.1 : Int) > (w.1.length : Int) - 1 then (w.2.1 : Int) else (w.1.length : Int) - 1
noncomputable def ilSum (w : WsT) (ts : Int) : Int := (rangeP ts (w.1.length - ts.toNat)).foldl (fun il p => match p with | .int i => il + i.fdiv ts * w.1.getD i.toNat 0 | _ => il) 0
noncomputable def ilOf (w : WsT) (ts : Int) : Int := (w.2.1 : Int) + ts * (ilSum w ts + (w.2.2.2 : Int))
theorem rangeSize_any (a b : Int) (n : Nat) (h : n = (b - a).toNat) : Builtin.Range.rangeSize a b 1 = n := by
 subst h
 by_cases hab : a ≤ b
 · exact rangeSize_nat a b hab
 · unfold Builtin.Range.rangeSize
   have : (b - a).toNat = 0 := by omega
   rw [this]
   simp
   omega
theorem range_small (a b : Int) (h1 : -100000 ≤ a) (h2 : a ≤ 100000) (h3 : -100000 ≤ b) (h4 : b ≤ 100000) : Builtin.Range.small a b 1 = true := by
 have e := rangeSize_any a b _ rfl
 have f : ∀ z : Int, -200000 ≤ z → z ≤ 200000 → Builtin.Range.rangeFitsLong z = true := fun z h1 h2 => by
  unfold Builtin.Range.rangeFitsLong
  simp only [Bool.and_eq_true, decide_eq_true_eq]
  omega
 unfold Builtin.Range.small
 rw [e, f a (by omega) (by omega), f b (by omega) (by omega), f 1 (by omega) (by omega), f _ (by omega) (by omega), if_pos (by decide), f (b + (1 - 1)) (by omega) (by omega)]
 simp
theorem seqIndex_nat {i : Int} {n : Nat} (h0 : 0 ≤ i) (h1 : i < n) : seqIndex? i n = some i.toNat := by
 unfold seqIndex?
 rw [if_neg (Int.not_lt.mpr h0)]
 exact if_pos (by rw [decide_eq_true h0, decide_eq_true h1]; rfl)
theorem lr_spec (W : Wd C) (x : Str) (w : WsT) (hw : w.1.length ≤ 1001) : PN C (k + 1) (.ref fn_q2) [wsV x w] (.fr (.int (lrOf w))) := by
 have F : IsDef C fn_q2 fd_q2 ["self"] (bodyOf st_q2) := isDef_of W (fun P => by kernel_rfl) (fun P => by kernel_rfl) (by kernel_rfl) rfl
 refine PN.ret F (Binds.plain fun vs hv => ?_) rfl fun L => ?_
 · obtain ⟨v, rfl⟩ := len1 hv; rfl
 have X := W.X
 have O := ws_cls C.w.params
 have hl : ((w.1.map PV.int).length : Int) = (w.1.length : Int) := by rw [List.length_map]
 unfold lrOf
 rw [← hl]
 refine Ret.step (Ex.assignTup (Ev.attr (by walk_at "ev") X O (ws_norm _) rfl) (As.tup (AsL.cons (As.name (.inl rfl)) (AsL.cons (As.name (.inl rfl)) AsL.nil)))) ?_
 exact Ret.ret (Ev.callB (by walk_at "ev") (EvL.cons (Ev.binop (Ev.callB (by walk_at "ev") (by walk_at "evl") (PN.lenT (by rw [List.length_map]; omega))) (by walk_at "ev") P2.subI) (by walk_at "evl")) PN.max2)
theorem il_spec (W : Wd C) (x : Str) (w : WsT) (ts : Int) (hw : w.1.length ≤ 1001) (h1 : 1 ≤ ts) (h2 : ts ≤ 2000) : PN C (k + 1) (.ref fn_q6) [wsV x w, .int ts] (.fr (.int (ilOf w ts))) := by
 have F : IsDef C fn_q6 fd_q6 ["self", "tabsize"] (bodyOf st_q6) := isDef_of W (fun P => by kernel_rfl) (fun P => by kernel_rfl) (by kernel_rfl) rfl
 refine PN.ret F (Binds.plain fun vs hv => ?_) rfl fun L => ?_
 · refine x20 (len2 hv) fun v v2 z1 => ?_; subst z1; rfl
 have X := W.X
 have O := ws_cls C.w.params
 let inv : Int → Rho := fun il => ofL [("self", .fr (wsV x w)), ("tabsize", .fr (.int ts)), ("count", .fr (.tup (w.1.map .int))), ("trailing", .fr (.int (w.2.1 : Nat))), ("il", .fr (.int il))]
 refine Ret.step (Ex.assignTup (Ev.attr (by walk_at "ev") X O (ws_norm _) rfl) (As.tup (AsL.cons (As.name (.inl rfl)) (AsL.cons (As.name (.inl rfl)) AsL.nil)))) ?_
 refine Ret.step (Ex.assign (by walk_at "ev") (.inl rfl)) ?_
 refine Ret.pre (ρ2 := inv 0) (LeL.le ⟨rfl, rfl, rfl, rfl, rfl, trivial⟩) ?_
 refine Ret.step (ρ1 := inv (ilSum w ts)) (Ex.forL (EvIt.range2 (n := w.1.length - ts.toNat) (by walk_at "ev") (by walk_at "ev") (Ev.callB (by walk_at "ev") (by walk_at "evl") (PN.lenT (by rw [List.length_map]; omega))) ?_ ?_) (LoopL.fold inv _ _ _ 0 Steps.name ?_)) ?_
 · rw [List.length_map]
   exact rangeSize_any _ _ (w.1.length - ts.toNat) (by omega)
 · rw [List.length_map]
   exact range_small _ _ (by omega) (by omega) (by omega) (by omega)
 · intro il p hp
   simp only [rangeP, List.mem_map, List.mem_range] at hp
   refine x11 hp fun j hj z1 => ?_; clear hp; subst z1
   have hlt : (ts + j).toNat < w.1.length := by omega
   refine ⟨_, As.name (.inl rfl), Exs.cons (Ex.assign (Ev.binop (by walk_at "ev") (Ev.binop (Ev.binop (by walk_at "ev") (by walk_at "ev") (P2.divI (by omega) (divSmall (by omega)))) (Ev.item (by walk_at "ev") (by walk_at "ev") (Pidx.tup (j := (ts + j).toNat) (by omega) (by omega) ?_ (getD_map hlt))) (P2.mulI (IntMulOk.of_left (PySem.intBits_le_64 ?_ ?_)))) P2.addI) (.inl rfl)) (Exs.post (LeL.le ⟨rfl, rfl, rfl, rfl, rfl, trivial⟩) Exs.nil)⟩
   · rw [List.length_map, seqIndex_nat (by omega) (by omega)]
   · have : (0 : Int) ≤ (ts + j).fdiv ts := Int.fdiv_nonneg (by omega) (by omega)
     omega
   · have h0 : (ts + j).fdiv ts ≤ ts + j := by
      rw [Int.fdiv_eq_ediv_of_nonneg _ (by omega)]
      exact Int.ediv_le_self _ (by omega)
     omega
 · exact Ret.ret (Ev.binop (by walk_at "ev") (Ev.binop (by walk_at "ev") (Ev.binop (by walk_at "ev") (Ev.attr (by walk_at "ev") X O (ws_nt _) rfl) P2.addI) (P2.mulI (IntMulOk.of_left (PySem.intBits_le_64 (by omega) (by omega))))) P2.addI)
end
section
variable {C : Cx} {k : Nat}
noncomputable def lessOf (w v : WsT) : Bool :=
 if (v.2.2.1 : Int) ≤ (w.2.2.1 : Int) then false
 else if decide ((w.1.length : Int) ≤ 1) && decide ((v.1.length : Int) ≤ 1) then decide ((w.2.2.2 : Int) ≤ (v.2.2.2 : Int))
 else match (rangeP 2 ((if lrOf v > lrOf w then lrOf v else lrOf w) + 1 + 1 - 2).toNat).find? (fun p => match p with | .int ts => decide (ilOf v ts ≤ ilOf w ts) | _ => false) with
  | some _ => false
  | none => true
theorem ws_lr (P : Params) : methOk (KK P) cl_q4 "longest_run_of_spaces" fn_q2 = true := by kernel_rfl
theorem ws_il (P : Params) : methOk (KK P) cl_q4 "indent_level" fn_q6 = true := by kernel_rfl
theorem ws_less (P : Params) : methOk (KK P) cl_q4 "less" fn_q14 = true := by kernel_rfl
theorem less_spec (W : Wd C) (x y : Str) (w v : WsT) (hw : w.1.length ≤ 1001) (hv : v.1.length ≤ 1001) (hwb : w.2.1 ≤ 1000) (hvb : v.2.1 ≤ 1000) : PN C (k + 2) (.ref fn_q14) [wsV x w, wsV y v] (.fr (.bool (lessOf w v))) := by
 have F : IsDef C fn_q14 fd_q14 ["self", "other"] (bodyOf st_q14) := isDef_of W (fun P => by kernel_rfl) (fun P => by kernel_rfl) (by kernel_rfl) rfl
 refine PN.ret F (Binds.plain fun vs hv => ?_) rfl fun L => ?_
 · refine x20 (len2 hv) fun v v2 z1 => ?_; subst z1; rfl
 have X := W.X
 have O := ws_cls C.w.params
 have M1 := methOk.of (ws_lr C.w.params)
 have M2 := methOk.of (ws_il C.w.params)
 unfold lessOf
 refine Ret.ifRet (b := decide ((v.2.2.1 : Int) ≤ (w.2.2.1 : Int))) (Ts.compare1 (Ev.attr (by walk_at "ev") X O (ws_n _) rfl) (Ev.attr (by walk_at "ev") X O (ws_n _) rfl) P2.geI .bool) (fun h => ?_) (fun h => ?_)
 · rw [if_pos (by simpa using h)]
   exact Ret.ret (by walk_at "ev")
 rw [if_neg (by simpa using h)]
 refine Ret.ifRet (b := decide ((w.1.length : Int) ≤ 1) && (decide ((v.1.length : Int) ≤ 1) && true)) (Ts.boolOp (TsL.and (Ts.val (Ev.attr (by walk_at "ev") X O (ws_simple _) rfl) .bool) fun _ => TsL.and (Ts.val (Ev.attr (by walk_at "ev") X O (ws_simple _) rfl) .bool) fun _ => TsL.andNil)) (fun h => ?_) (fun h => ?_)
 · rw [Bool.and_true] at h
   rw [if_pos h]
   exact Ret.ret (Ev.compare1 (Ev.attr (by walk_at "ev") X O (ws_nt _) rfl) (Ev.attr (by walk_at "ev") X O (ws_nt _) rfl) P2.leI)
 rw [Bool.and_true] at h
 rw [if_neg (by rw [h]; decide)]
 let n : Int := (if lrOf v > lrOf w then lrOf v else lrOf w) + 1
 have hn : 0 ≤ n ∧ n ≤ 1002 := by
  have a1 : -1 ≤ lrOf v ∧ lrOf v ≤ 1001 := by unfold lrOf; split <;> omega
  have a2 : -1 ≤ lrOf w ∧ lrOf w ≤ 1001 := by unfold lrOf; split <;> omega
  show 0 ≤ (if lrOf v > lrOf w then lrOf v else lrOf w) + 1 ∧ (if lrOf v > lrOf w then lrOf v else lrOf w) + 1 ≤ 1002
  split <;> omega
 refine Ret.step (ρ1 := ofL [("self", .fr (wsV x w)), ("other", .fr (wsV y v)), ("n", .fr (.int n))]) (Ex.post (LeL.le ⟨rfl, rfl, rfl, trivial⟩) (Ex.assign (Ev.binop (Ev.callB (by walk_at "ev") (EvL.cons (Ev.meth0 (by walk_at "ev") X O M1 (by decide) (lr_spec W x w hw)) (EvL.cons (Ev.meth0 (by walk_at "ev") X O M1 (by decide) (lr_spec W y v hv)) EvL.nil)) PN.max2) (by walk_at "ev") P2.addI) (.inl rfl))) ?_
 have e : (match (rangeP 2 (n + 1 - 2).toNat).find? (fun p => match p with | .int ts => decide (ilOf v ts ≤ ilOf w ts) | _ => false) with | some _ => Loc.fr (.bool false) | none => Loc.fr (.bool true)) =
  .fr (.bool (match (rangeP 2 (n + 1 - 2).toNat).find? (fun p => match p with | .int ts => decide (ilOf v ts ≤ ilOf w ts) | _ => false) with | some _ => false | none => true)) := by split <;> rfl
 rw [← e]
 have hts : ∀ p ∈ rangeP 2 (n + 1 - 2).toNat, ∃ ts : Int, p = .int ts ∧ 1 ≤ ts ∧ ts ≤ 2000 := fun p hp => by
  simp only [rangeP, List.mem_map, List.mem_range] at hp
  refine x11 hp fun j hj z1 => ?_; clear hp; subst z1
  exact ⟨_, rfl, by omega, by omega⟩
 refine Ret.forFind (xs := rangeP 2 (n + 1 - 2).toNat) (fun p => match p with | .int ts => decide (ilOf v ts ≤ ilOf w ts) | _ => false) (fun _ => Loc.fr (.bool false)) (EvIt.range2 (n := (n + 1 - 2).toNat) (by walk_at "ev") (by walk_at "ev") (by walk_at "ev") (rangeSize_any _ _ _ rfl) (range_small _ _ (by omega) (by omega) (by omega) (by omega))) Steps.name ?_ ?_ ?_
 · intro p hp hf
   refine x12 (hts p hp) fun ts z1 h1 h2 => ?_; subst z1
   refine ⟨_, As.name (.inl rfl), Exs.cons (Ex.ite (ρ' := ofL [("self", .fr (wsV x w)), ("other", .fr (wsV y v)), ("n", .fr (.int n))]) (b := decide (ilOf v ts ≤ ilOf w ts)) (o := .next) (Ts.compare1 (Ev.meth (by walk_at "ev") (by walk_at "evl") X O M2 (by decide) (il_spec W x w ts hw h1 h2)) (Ev.meth (by walk_at "ev") (by walk_at "evl") X O M2 (by decide) (il_spec W y v ts hv h1 h2)) P2.geI .bool) (fun q => ?_) (fun _ => Exs.post (LeL.le ⟨rfl, rfl, rfl, trivial⟩) Exs.nil)) Exs.nil⟩
   rw [show decide (ilOf v ts ≤ ilOf w ts) = false from hf] at q
   exact ft q
 · intro p hp hf
   refine x12 (hts p hp) fun ts z1 h1 h2 => ?_; subst z1
   refine ⟨_, As.name (.inl rfl), Ret.ifRet (b := decide (ilOf v ts ≤ ilOf w ts)) (Ts.compare1 (Ev.meth (by walk_at "ev") (by walk_at "evl") X O M2 (by decide) (il_spec W x w ts hw h1 h2)) (Ev.meth (by walk_at "ev") (by walk_at "evl") X O M2 (by decide) (il_spec W y v ts hv h1 h2)) P2.geI .bool) (fun _ => Ret.ret (by walk_at "ev")) (fun q => ?_)⟩
   rw [show decide (ilOf v ts ≤ ilOf w ts) = true from hf] at q
   exact tf q
 · intro _
   exact Ret.ret (by walk_at "ev")
end
section
variable {C : Cx} {k : Nat}
theorem P2.isNotSame {X : String} : P2 C k (compareOp .IsNot) (.con (.type X)) (.con (.type X)) (.fr (.bool false)) := .mk fun A kk fk env ρ tmp va vb s Q E R S H => by
 refine x12 S.top fun kp hb _ S1 => ?_
 refine x12 S1.top fun kp' ha _ S2 => ?_
 obtain rfl := ha.con_inv
 obtain rfl := hb.con_inv
 exact isnot_type_same (H _ s (S2.pushImm fun _ => .bool _))
theorem hd_f (P : Params) : findIn (KK P) (.ref cl_q5) "_headers" = some none := by kernel_rfl
theorem hd_keep (P : Params) : keepIn (KK P) (.ref cl_q5) = true := by kernel_rfl
theorem hd_ini (P : Params) : findIn (KK P) (.ref cl_q5) "__init__" = some (some (.ref fn_q10)) := by kernel_rfl
theorem hd_iniT (P : Params) : typeIn (KK P) (.ref fn_q10) = some (.type "function") := by kernel_rfl
theorem hd_conv (P : Params) : methOk (KK P) cl_q5 "_convert_string_type" fn_q0 = true := by kernel_rfl
theorem hd_add (P : Params) : methOk (KK P) cl_q5 "add_header" fn_q7 = true := by kernel_rfl
theorem hd_getall (P : Params) : methOk (KK P) cl_q5 "get_all" fn_q15 = true := by kernel_rfl
theorem hd_get (P : Params) : methOk (KK P) cl_q5 "get" fn_q12 = true := by kernel_rfl
noncomputable abbrev HdT := List (Str × Str)
noncomputable def hdRows (xs : HdT) : List PV := xs.map fun x => .tup [.str x.1, .str x.2]
noncomputable abbrev hdP (xs : HdT) : PV := .inst cl_q5 ["_headers"] [.lst (hdRows xs)]
def okName (x : Str) : Prop := ∀ c ∈ x.cps, 32 ≤ c ∧ c ≠ 127
def okVal (x : Str) : Prop := ∀ c ∈ x.cps, (32 ≤ c ∧ c ≠ 127) ∨ c = 9
theorem conv_name (W : Wd C) (self : PV) (x : Str) (h : okName x) (hl : x.length ≤ 100000) : PK C (k + 1) (.ref fn_q0) [self, .str x] ["name"] [.bool true] (.fr (.str x)) := by
 have F : IsDef C fn_q0 fd_q0 ["self", "value", "name"] (bodyOf st_q0) := isDef_of W (fun P => by kernel_rfl) (fun P => by kernel_rfl) (by kernel_rfl) rfl
 refine PK.def F (bps := [self, .str x] ++ [.bool true]) (Binds.kw fun vs ks hv hk => ?_) rfl fun L => ?_
 · refine x20 (len2 hv) fun v v2 z1 => ?_; subst z1; obtain ⟨v3, rfl⟩ := len1 hk; rfl
 suffices h : Ret C k (callEnvC fd_q0 L fn_q0) (bindR ((["self", "value", "name"] : List Str).zip [self, .str x, .bool true]) fun _ => none) (bodyOf st_q0) (.fr (.str x)) from let ⟨_, r⟩ := h; BodyW.ret r
 refine Ret.ifRet (b := true) (Ts.compare1 (Ev.callT (by walk_at "ev") (by walk_at "evl") PN.typeStr) (by walk_at "ev") P2.isType (by exact .bool)) (fun _ => ?_) (fun h => by exact tf h)
 refine Ret.step (Ex.assign (Ev.ifExp (b := true) (by walk_at "ts") (fun _ => Ev.g W rfl rfl) (fun h => by exact tf h)) (.inl rfl)) ?_
 refine Ret.ifRet (b := false) (Ts.val (Ev.search (by walk_at "ev") (by walk_at "ev") W.pn (by decide +kernel) (none_name h) (by have : x.cps.size = x.length := rfl; omega)) .none) (fun h => by exact ft h) (fun _ => Ret.ret (by walk_at "ev"))
theorem conv_val (W : Wd C) (self : PV) (x : Str) (h : okVal x) (hl : x.length ≤ 100000) : PK C (k + 1) (.ref fn_q0) [self, .str x] ["name"] [.bool false] (.fr (.str x)) := by
 have F : IsDef C fn_q0 fd_q0 ["self", "value", "name"] (bodyOf st_q0) := isDef_of W (fun P => by kernel_rfl) (fun P => by kernel_rfl) (by kernel_rfl) rfl
 refine PK.def F (bps := [self, .str x] ++ [.bool false]) (Binds.kw fun vs ks hv hk => ?_) rfl fun L => ?_
 · refine x20 (len2 hv) fun v v2 z1 => ?_; subst z1; obtain ⟨v3, rfl⟩ := len1 hk; rfl
 suffices h : Ret C k (callEnvC fd_q0 L fn_q0) (bindR ((["self", "value", "name"] : List Str).zip [self, .str x, .bool false]) fun _ => none) (bodyOf st_q0) (.fr (.str x)) from let ⟨_, r⟩ := h; BodyW.ret r
 refine Ret.ifRet (b := true) (Ts.compare1 (Ev.callT (by walk_at "ev") (by walk_at "evl") PN.typeStr) (by walk_at "ev") P2.isType (by exact .bool)) (fun _ => ?_) (fun h => by exact tf h)
 refine Ret.step (Ex.assign (Ev.ifExp (b := false) (by walk_at "ts") (fun h => by exact ft h) (fun _ => Ev.g W rfl rfl)) (.inl rfl)) ?_
 refine Ret.ifRet (b := false) (Ts.val (Ev.search (by walk_at "ev") (by walk_at "ev") W.pv (by decide +kernel) (none_value h) (by have : x.cps.size = x.length := rfl; omega)) .none) (fun h => by exact ft h) (fun _ => Ret.ret (by walk_at "ev"))
theorem hd_init (W : Wd C) : ∀ L a b, BodyW C k (callEnvC fd_q10 L fn_q10) (bindR ((["self", "headers"] : List Str).zip [PV.con (.ref a), PV.con (.ref b)]) fun _ => none) (.hz a b cl_q5) (.one (.ref a)) (bodyOf st_q10) (.fr .none) (.hd (some (a, b)) cl_q5 "_headers" []) := by
 intro L a b
 have X := W.X
 have O := hd_cls C.w.params
 refine BodyW.ownN (x := "self") (ρ' := ofL [("self", .hd (some (a, b)) cl_q5 "_headers" [])]) rfl ?_ rfl (fun kp h v ow r => hasAddr.hd _ _ _ _ _ r)
 refine Exs.cons (Ex.assign (Ev.ifExp (b := true) (Ts.compare1 (by walk_at "ev") (by walk_at "ev") P2.isNotNoneRef .bool) (fun _ => by walk_at "ev") (fun h => by exact tf h)) (.inl rfl)) ?_
 refine Exs.cons (Ex.ite (b := false) (o := .next) (Ts.compare1 (Ev.typeOwn (y := "self") (by walk_at "ev") rfl rfl) (by walk_at "ev") P2.isNotSame .bool) (fun h => by exact ft h) (fun _ => Exs.nil)) ?_
 refine Exs.cons (Ex.setOwn rfl rfl X O (hd_f _)) ?_
 refine Exs.cons (Ex.ite (b := true) (o := .next) (Ts.val Ev.boolC .bool) (fun _ => Exs.cons (Ex.forEmptyOwn (y := "self") (q := none) rfl rfl) Exs.nil) (fun h => by exact tf h)) ?_
 exact Exs.post (LeL.le ⟨rfl, trivial⟩) Exs.nil
theorem hdRows_append (xs : HdT) (n v : Str) : hdRows (xs ++ [(n, v)]) = hdRows xs ++ [.tup [.str n, .str v]] := by simp [hdRows]
theorem join_one (x v : Str) : Txt.join x [v] = v := eq_of_beq (join_closes (sep := x) (sep' := x) (ys := [v]) rfl)
theorem joinOk_one {v : Str} (h : v.length ≤ 100000) : JoinOk "; " [v] = true := by
 unfold JoinOk
 have e : ("; " : Str).length = 2 := by decide +kernel
 simp [e, Builtin.Str.tooLong, sizeLine_eq]
 omega
theorem hd_addB (W : Wd C) (xs : HdT) (n v : Str) (hn : okName n) (hv : okVal v) (hnl : n.length ≤ 100000) (hvl : v.length ≤ 100000) (hx : xs.length ≤ 100000) : ∀ L a b, BodyW C (k + 1) (callEnvC fd_q7 L fn_q7) (bindR ((["self", "_name", "_value", "_params"] : List Str).zip [PV.con (.ref a), PV.str n, PV.str v, PV.dict0]) fun _ => none)
 (.hd (some (a, b)) cl_q5 "_headers" (hdRows xs)) (.one (.ref a)) (bodyOf st_q7) (.fr .none) (.hd (some (a, b)) cl_q5 "_headers" (hdRows (xs ++ [(n, v)]))) := by
 intro L a b
 have X := W.X
 have O := hd_cls C.w.params
 have M := methOk.of (hd_conv C.w.params)
 refine BodyW.ownN (x := "self") (ρ' := ofL [("self", .hd (some (a, b)) cl_q5 "_headers" (hdRows (xs ++ [(n, v)])))]) rfl ?_ rfl (fun kp h v ow r => hasAddr.hd _ _ _ _ _ r)
 refine Exs.pre (ρ2 := ofL [("self", .hd (some (a, b)) cl_q5 "_headers" (hdRows xs)), ("_name", .fr (.str n)), ("_value", .fr (.str v)), ("_params", .fr .dict0)]) (LeL.le ⟨rfl, rfl, rfl, rfl, trivial⟩) ?_
 refine Exs.cons (Ex.assign (by walk_at "ev") (.inl rfl)) ?_
 refine Exs.cons (ρ' := ofL [("self", .hd (some (a, b)) cl_q5 "_headers" (hdRows xs)), ("_name", .fr (.str n)), ("_value", .fr (.str v)), ("_params", .fr .dict0), ("parts", .ol ([] ++ [.str v]))]) (Ex.ite (b := true) (o := .next) (Ts.compare1 (by walk_at "ev") (by walk_at "ev") P2.isNotNoneStr .bool) (fun _ => ?_) (fun h => by exact tf h)) ?_
 · refine Exs.cons (Ex.assign (Ev.snap (Ev.methK (by walk_at "ev") (by walk_at "evl") (EvK.cons (by walk_at "ev") EvK.nil) X O M (by decide) (conv_val W _ v hv hvl)) rfl) (.inl rfl)) ?_
   refine Exs.cons (Ex.append rfl (fun b => by walk_at "ev") (by simp)) (Exs.post (LeL.le ⟨rfl, rfl, rfl, rfl, rfl, trivial⟩) Exs.nil)
 refine Exs.cons (Ex.forItems0 rfl W.sm) ?_
 rw [hdRows_append]
 have ej : Txt.join "; " [v] = v := join_one _ _
 refine Exs.cons (Ex.appendSelf (p := .tup [.str n, .str v]) rfl (Ev.tuple (EvL.cons (Ev.snap (Ev.methK (by walk_at "ev") (by walk_at "evl") (EvK.cons (by walk_at "ev") EvK.nil) X O M (by decide) (conv_name W _ n hn hnl)) rfl) (EvL.cons (by rw [← ej]; exact Ev.snap (Ev.join (texts := [v]) (by walk_at "ev") (by walk_at "ev") (joinOk_one hvl)) rfl) EvL.nil)) (by simp [sizeLine_eq])) X O (hd_f _) (by simp [hdRows, sizeLine_eq]; omega)) ?_
 exact Exs.post (LeL.le ⟨rfl, trivial⟩) Exs.nil
def lowOk (x : Str) : Prop := (lowS x).length ≤ 100000
theorem Ev.low {env : Env} {ρ : Rho} {o : Expr} {ap pos : Pos} {x : Str} (ho : Ev C k env ρ o (.fr (.str x))) (h : lowOk x)
 (hbase : attributeBase o "lower" env (eval o env) = eval o env := by rfl) (hline : (ap.endLine == pos.line) = true := by rfl) :
 Ev C k env ρ (.Call (.Attribute o "lower" ap) [] [] pos) (.fr (.str (lowS x))) := by
 have e : (lowS x).length = (placed x fun i _ => Unicode.lowerAt x.cps i).size := rfl
 unfold lowOk at h
 refine Ev.lower ho ?_ ?_ hbase hline
 · unfold Builtin.Str.tooLong
   exact decide_eq_false (by rw [sizeLine_eq]; omega)
 · show (placed x fun i _ => Unicode.lowerAt x.cps i).size ≤ sizeLine
   rw [sizeLine_eq]; omega
noncomputable def keepH (nm : Str) (p : PV) : Bool := match p with
 | .tup [.str n, _] => lowS n == nm
 | _ => false
noncomputable def valH (p : PV) : PV := match p with
 | .tup [_, v] => v
 | _ => .none
noncomputable def getAllOf (xs : HdT) (name : Str) : List Str := (xs.filter fun x => lowS x.1 == lowS name).map (·.2)
theorem keepH_row {nm x : Str} {v : PV} : keepH nm (.tup [.str x, v]) = (lowS x == nm) := rfl
theorem valH_row {a v : PV} : valH (.tup [a, v]) = v := rfl
theorem getAll_rows (xs : HdT) (nm : Str) : ((hdRows xs).filter (keepH nm)).map valH = ((xs.filter fun x => lowS x.1 == nm).map (·.2)).map .str := by
 induction xs with
 | nil => rfl
 | cons x r ih =>
  simp only [hdRows, List.map_cons, List.filter_cons] at ih ⊢
  simp only [keepH_row]
  split <;> simp_all [valH_row]
theorem getall_spec (W : Wd C) (xs : HdT) (name : Str) (hx : ∀ x ∈ xs, lowOk x.1) (hn : lowOk name) (hok : okName (lowS name)) (hlen : xs.length ≤ 100000) : PN C (k + 2) (.ref fn_q15) [hdP xs, .str name] (.ol ((getAllOf xs name).map .str)) := by
 have F : IsDef C fn_q15 fd_q15 ["self", "name"] (bodyOf st_q15) := isDef_of W (fun P => by kernel_rfl) (fun P => by kernel_rfl) (by kernel_rfl) rfl
 refine PN.ret F (Binds.plain fun vs hv => ?_) rfl fun L => ?_
 · refine x20 (len2 hv) fun v v2 z1 => ?_; subst z1; rfl
 have X := W.X
 have O := hd_cls C.w.params
 have M := methOk.of (hd_conv C.w.params)
 refine Ret.step (Ex.assign (Ev.methK (by walk_at "ev") (EvL.cons (Ev.low (by walk_at "ev") hn) EvL.nil) (EvK.cons (by walk_at "ev") EvK.nil) X O M (by decide) (conv_name W _ (lowS name) hok hn)) (.inr ⟨rfl, _, rfl, Nat.lt_succ_self L⟩)) ?_
 unfold getAllOf
 rw [← getAll_rows]
 refine Ret.ret (Ev.comp (EvIt.of (Ev.attr (by walk_at "ev") X O (hd_f _) rfl) Iter.lst) (by rfl) Self.itr (fun Ca => ?_) ?_)
 · refine CLoop.name (.inl rfl) (keepH (lowS name)) valH (hdRows xs) _ _ Steps.name (fun _ => rfl) ?_ ?_
   · intro p hp
     refine x11 (List.mem_map.mp hp) fun z1 hm z2 => ?_; obtain ⟨n, v⟩ := z1; subst z2
     refine TsF.one (Ts.compare1 (Ev.low (Ev.item (by walk_at "ev") (by walk_at "ev") (Pidx.tup (j := 0) (by decide) (by decide) rfl rfl)) (hx _ hm)) (by walk_at "ev") P2.eqS .bool)
   · intro p hp _
     refine x11 (List.mem_map.mp hp) fun z1 hm z2 => ?_; obtain ⟨n, v⟩ := z1; subst z2
     exact Ev.item (by walk_at "ev") (by walk_at "ev") (Pidx.tup (j := 1) (by decide) (by decide) rfl rfl)
 · have h1 : ((hdRows xs).filter (keepH (lowS name))).length ≤ (hdRows xs).length := List.length_filter_le _ _
   rw [List.length_map, sizeLine_eq]
   simp only [hdRows, List.length_map] at h1 ⊢
   omega
noncomputable def getOf (xs : HdT) (name : Str) : Option Str := (xs.find? fun x => lowS x.1 == lowS name).map (·.2)
theorem get_rows (xs : HdT) (nm : Str) : (hdRows xs).find? (keepH nm) = (xs.find? fun x => lowS x.1 == nm).map fun x => .tup [.str x.1, .str x.2] := by
 induction xs with
 | nil => rfl
 | cons x r ih =>
  simp only [hdRows, List.map_cons, List.find?_cons] at ih ⊢
  simp only [keepH_row]
  cases lowS x.1 == nm with
  | true => rfl
  | false => exact ih
theorem get_body (W : Wd C) (xs : HdT) (name : Str) (d : PV) (hx : ∀ x ∈ xs, lowOk x.1) (hn : lowOk name) (hok : okName (lowS name)) (L : Addr) :
 Ret C (k + 1) (callEnvC fd_q12 L fn_q12) (bindR ((["self", "name", "default"] : List Str).zip [hdP xs, .str name, d]) fun _ => none) (bodyOf st_q12) (.fr (match getOf xs name with | some v => .str v | none => d)) := by
 have X := W.X
 have O := hd_cls C.w.params
 have M := methOk.of (hd_conv C.w.params)
 refine Ret.step (Ex.assign (Ev.methK (by walk_at "ev") (EvL.cons (Ev.low (by walk_at "ev") hn) EvL.nil) (EvK.cons (by walk_at "ev") EvK.nil) X O M (by decide) (conv_name W _ (lowS name) hok hn)) (.inl rfl)) ?_
 let inv : Rho := ofL [("self", .fr (hdP xs)), ("name", .fr (.str (lowS name))), ("default", .fr d)]
 refine Ret.pre (ρ2 := inv) (LeL.le ⟨rfl, rfl, rfl, trivial⟩) ?_
 have e : (Loc.fr (match getOf xs name with | some v => PV.str v | none => d)) = (match (hdRows xs).find? (keepH (lowS name)) with | some p => Loc.fr (valH p) | none => .fr d) := by
  rw [get_rows]
  unfold getOf
  cases xs.find? fun x => lowS x.1 == lowS name <;> rfl
 rw [e]
 refine Ret.forFind (keepH (lowS name)) (fun p => .fr (valH p)) (EvIt.of (Ev.attr (by walk_at "ev") X O (hd_f _) rfl) Iter.lst) Steps.tup ?_ ?_ ?_
 · intro p hp hf
   refine x11 (List.mem_map.mp hp) fun z1 hm z2 => ?_; obtain ⟨n, v⟩ := z1; subst z2
   refine ⟨_, As.tup (AsL.cons (As.name (.inl rfl)) (AsL.cons (As.name (.inl rfl)) AsL.nil)), Exs.cons (Ex.ite (ρ' := inv) (b := lowS n == lowS name) (o := .next) (Ts.compare1 (Ev.low (by walk_at "ev") (hx _ hm)) (by walk_at "ev") P2.eqS .bool) (fun q => ?_) (fun _ => Exs.post (LeL.le ⟨rfl, rfl, rfl, trivial⟩) Exs.nil)) Exs.nil⟩
   rw [show (lowS n == lowS name) = false from hf] at q
   exact ft q
 · intro p hp hf
   refine x11 (List.mem_map.mp hp) fun z1 hm z2 => ?_; obtain ⟨n, v⟩ := z1; subst z2
   refine ⟨_, As.tup (AsL.cons (As.name (.inl rfl)) (AsL.cons (As.name (.inl rfl)) AsL.nil)), Ret.ifRet (b := lowS n == lowS name) (Ts.compare1 (Ev.low (by walk_at "ev") (hx _ hm)) (by walk_at "ev") P2.eqS .bool) (fun _ => Ret.ret (Ev.name rfl)) (fun q => ?_)⟩
   rw [show (lowS n == lowS name) = true from hf] at q
   exact tf q
 · intro _
   exact Ret.ret (Ev.name rfl)
noncomputable abbrev getDef : Addr := match fd_q12.defaults with
 | .ref T => T
 | _ => 0
theorem tup_default (P : Params) : (KK P).lookup getDef = some ⟨.type "tuple", none, .seq #[.none] 0, #[]⟩ := by kernel_rfl
theorem get_spec1 (W : Wd C) (xs : HdT) (name : Str) (hx : ∀ x ∈ xs, lowOk x.1) (hn : lowOk name) (hok : okName (lowS name)) : PN C (k + 2) (.ref fn_q12) [hdP xs, .str name] (.fr (match getOf xs name with | some v => .str v | none => .none)) := by
 have F : IsDef C fn_q12 fd_q12 ["self", "name", "default"] (bodyOf st_q12) := isDef_of W (fun P => by kernel_rfl) (fun P => by kernel_rfl) (by kernel_rfl) rfl
 refine PN.ret F (bps := [hdP xs, .str name] ++ [.none]) (Binds.defaults (T := getDef) (items := #[Value.none]) rfl (W.X _ _ (tup_default _)) rfl (fun kp => .cons .none .nil) fun vs hv => ?_) rfl fun L => get_body W xs name .none hx hn hok L
 refine x20 (len2 hv) fun v v2 z1 => ?_; subst z1; exact ⟨_, rfl, rfl⟩
end
section
variable {C : Cx} {k : Nat}
noncomputable def leastN (x : Int) : Nat → Int → Int
 | 0, n => n
 | f + 1, n => if x + 64 * n ≤ 64 then leastN x f (n + 1) else n
theorem leastN_loop {env : Env} {base : Rho} {t : Expr} {body : List Stmt} {x : Int} (ht : ∀ n : Int, Ts C k env (upd base "n" (.fr (.int n))) t (decide (x + 64 * n ≤ 64))) (hb : ∀ n : Int, Exs C k env (upd base "n" (.fr (.int n))) body .next (upd base "n" (.fr (.int (n + 1))))) :
 ∀ (f : Nat) (n : Int), 64 < x + 64 * (n + f) → WLoop C k env t body (upd base "n" (.fr (.int n))) .next (upd base "n" (.fr (.int (leastN x f n))))
 | 0, n, h => .done (by have := ht n; rwa [decide_eq_false (by simp at h; omega)] at this)
 | f + 1, n, h => by
  unfold leastN
  by_cases hc : x + 64 * n ≤ 64
  · rw [if_pos hc]
    exact .next (by have := ht n; rwa [decide_eq_true hc] at this) (hb n) (leastN_loop ht hb f (n + 1) (by push_cast at h ⊢; omega))
  · rw [if_neg hc]
    exact .done (by have := ht n; rwa [decide_eq_false hc] at this)
noncomputable abbrev RowT := Str × Int × Str × Str
noncomputable def rowP (r : RowT) : PV := .tup [.str r.1, .int r.2.1, .str r.2.2.1, .str r.2.2.2]
noncomputable def worthStep (rows : List RowT) (up : List Nat) (on : List Int) (i : Nat) : List Int :=
 let turn := 1 - 2 * ((rows[i]?.map fun (r : RowT) => r.2.1).getD 0).fmod 2
 let x := on.getD i 0 * turn
 let n := leastN x 400 1
 on.set (up.getD i 0) (on.getD (up.getD i 0) 0 + turn * (x + 64 * n).fdiv (2 ^ (n - 1).toNat))
theorem leastN_ge (x : Int) : ∀ (f : Nat) (n : Int), n ≤ leastN x f n
 | 0, n => Int.le_refl _
 | f + 1, n => by
  unfold leastN
  split
  · have := leastN_ge x f (n + 1); omega
  · exact Int.le_refl _
theorem pick_rev : ∀ (xs : List PV), xs.length ≤ 4 → pickP xs none none (some (-1)) = xs.reverse
 | [], _ => rfl
 | [_], _ => by simp [pickP, sliceBounds, sliceRange, List.range, List.range.loop]
 | [_, _], _ => by simp [pickP, sliceBounds, sliceRange, List.range, List.range.loop]
 | [_, _, _], _ => by simp [pickP, sliceBounds, sliceRange, List.range, List.range.loop]
 | [_, _, _, _], _ => by simp [pickP, sliceBounds, sliceRange, List.range, List.range.loop]
 | _ :: _ :: _ :: _ :: _ :: _, h => by simp at h
def Small (b : Int) (on : List Int) : Prop := on.length = 5 ∧ ∀ j, -b ≤ on.getD j 0 ∧ on.getD j 0 ≤ b
theorem turn_pm (z : Int) : 1 - 2 * z.fmod 2 = 1 ∨ 1 - 2 * z.fmod 2 = -1 := by
 have h1 := Int.fmod_nonneg_of_pos z (show (0 : Int) < 2 by decide)
 have h2 := Int.fmod_lt_of_pos z (show (0 : Int) < 2 by decide)
 omega
theorem leastN_reach (x : Int) : ∀ (f : Nat) (n : Int), 64 < x + 64 * (n + f) → 64 < x + 64 * leastN x f n
 | 0, n, h => by simpa [leastN] using h
 | f + 1, n, h => by
  unfold leastN
  split
  · exact leastN_reach x f (n + 1) (by push_cast at h ⊢; omega)
  · omega
theorem leastN_tight (x : Int) : ∀ (f : Nat) (n : Int), leastN x f n = n ∨ x + 64 * leastN x f n ≤ 128
 | 0, n => .inl rfl
 | f + 1, n => by
  unfold leastN
  split
  · rename_i hc
    rcases leastN_tight x f (n + 1) with h | h
    · rw [h]; right; omega
    · exact .inr h
  · exact .inl rfl
theorem worth_add {x b : Int} (hb : 0 ≤ b) (h2000 : b ≤ 2000) (h1 : -b ≤ x) (h2 : x ≤ b) : 0 ≤ (x + 64 * leastN x 400 1).fdiv (2 ^ (leastN x 400 1 - 1).toNat) ∧ (x + 64 * leastN x 400 1).fdiv (2 ^ (leastN x 400 1 - 1).toNat) ≤ b + 128 := by
 have hr := leastN_reach x 400 1 (by omega)
 have ht := leastN_tight x 400 1
 have hg := leastN_ge x 400 1
 generalize leastN x 400 1 = n at *
 have hp : (1 : Int) ≤ 2 ^ (n - 1).toNat := by
  have : 0 < (2 : Int) ^ (n - 1).toNat := Int.pow_pos (by decide)
  omega
 have hv : 0 ≤ x + 64 * n := by omega
 have hv2 : x + 64 * n ≤ b + 128 := by rcases ht with h | h <;> omega
 rw [Int.fdiv_eq_ediv_of_nonneg _ (by omega)]
 refine ⟨Int.ediv_nonneg hv (by omega), Int.le_trans (Int.ediv_le_self _ hv) hv2⟩
theorem small_step {b : Int} {on : List Int} {rows : List RowT} {up : List Nat} {i : Nat} (hb : 0 ≤ b) (h2000 : b ≤ 2000) (hs : Small b on) : Small (2 * b + 128) (worthStep rows up on i) := by
 obtain ⟨hl, hs⟩ := hs
 unfold worthStep
 dsimp only
 refine ⟨by simp [hl], fun j => ?_⟩
 have ht := turn_pm ((rows[i]?.map fun (r : RowT) => r.2.1).getD 0)
 generalize 1 - 2 * ((rows[i]?.map fun (r : RowT) => r.2.1).getD 0).fmod 2 = t at *
 have hx := hs i
 have hu := hs (up.getD i 0)
 have hj := hs j
 generalize up.getD i 0 = u at *
 have hxt : -b ≤ on.getD i 0 * t ∧ on.getD i 0 * t ≤ b := by rcases ht with rfl | rfl <;> omega
 obtain ⟨q1, q2⟩ := worth_add hb h2000 hxt.1 hxt.2
 generalize (on.getD i 0 * t + 64 * leastN (on.getD i 0 * t) 400 1).fdiv (2 ^ (leastN (on.getD i 0 * t) 400 1 - 1).toNat) = q at *
 have hv : -(2 * b + 128) ≤ on.getD u 0 + t * q ∧ on.getD u 0 + t * q ≤ 2 * b + 128 := by rcases ht with rfl | rfl <;> omega
 by_cases hju : u = j
 · subst hju
   by_cases hlt : u < on.length
   · rw [List.getD_eq_getElem?_getD, List.getElem?_set_self hlt]; exact hv
   · rw [List.set_eq_of_length_le (by omega)]; omega
 · rw [List.getD_eq_getElem?_getD, List.getElem?_set_ne hju, ← List.getD_eq_getElem?_getD]; omega
noncomputable abbrev intsP (xs : List Nat) : List PV := xs.map fun i => .int (i : Nat)
noncomputable def worthOf (here : List Nat) (rows : List RowT) (up : List Nat) : Int := (here.reverse.foldl (fun on i => worthStep rows up on i) [0, 0, 0, 0, 0]).getD 4 0
theorem foldl_ints {σ : Type} (f : σ → Nat → σ) (g : σ → PV → σ) (h : ∀ s (i : Nat), g s (.int (i : Nat)) = f s i) : ∀ (xs : List Nat) (s : σ), (intsP xs).foldl g s = xs.foldl f s
 | [], s => rfl
 | x :: r, s => by simp only [List.map_cons, List.foldl_cons, h]; exact foldl_ints f g h r _
theorem small_bound (j : Nat) (hj : j ≤ 4) : (128 : Int) * (2 ^ j - 1) ≤ 2000 := by
 match j, hj with
 | 0, _ | 1, _ | 2, _ | 3, _ | 4, _ => decide
theorem pow2_le {a : Nat} (h : a ≤ 33) : (2 : Int) ^ a ≤ 2 ^ 33 := by
 have := Int.ofNat_le.mpr (Nat.pow_le_pow_right (n := 2) (by decide) h)
 simpa [Int.natCast_pow] using this
theorem worth_spec (W : Wd C) (here up : List Nat) (rows : List RowT) (hlen : here.length ≤ 4) (hh : ∀ i ∈ here, i < 4 ∧ i < rows.length ∧ i < up.length ∧ up.getD i 0 < 5) :
 PN C (k + 1) (.ref fn_q19) [.lst (intsP here), .lst (rows.map rowP), .lst (intsP up)] (.fr (.int (worthOf here rows up))) := by
 have F : IsDef C fn_q19 fd_q19 ["here", "drawn", "up"] (bodyOf st_q19) := isDef_of W (fun P => by kernel_rfl) (fun P => by kernel_rfl) (by kernel_rfl) rfl
 refine PN.ret F (Binds.plain fun vs hv => ?_) rfl fun L => ?_
 · obtain ⟨v, v2, v3, rfl⟩ := len3 hv; rfl
 let base : List (Str × Loc) := [("here", .fr (.lst (intsP here))), ("drawn", .fr (.lst (rows.map rowP))), ("up", .fr (.lst (intsP up)))]
 let inv : List Int → Rho := fun on => ofL (("on", .ol (on.map .int)) :: base)
 let step : List Int → PV → List Int := fun on p => match p with | .int i => worthStep rows up on i.toNat | _ => on
 have hp : pickP (intsP here) none none (some (-1)) = intsP here.reverse := by rw [pick_rev _ (by simpa using hlen)]; simp [intsP]
 refine Ret.step (Ex.assign (Ev.binop (Ev.freeze (Ev.list (EvL.cons Ev.intC EvL.nil))) Ev.intC (P2.mulL (by simp) (by decide) (by decide) (by decide))) (.inl rfl)) ?_
 refine Ret.pre (ρ2 := inv [0, 0, 0, 0, 0]) (LeL.le ⟨rfl, rfl, rfl, rfl, trivial⟩) ?_
 refine Ret.step (ρ1 := inv ((intsP here.reverse).foldl step [0, 0, 0, 0, 0])) (Ex.forL (EvIt.of (Ev.freeze (Ev.sliceL (d := some (-1)) (by walk_at "ev") .none .none (.some (by walk_at "ev")) (by decide) (by rw [sizeLine_eq, List.length_map]; omega))) Iter.lst) ?_) ?_
 · rw [hp]
   refine LoopL.foldI inv step (fun xs on => Small (128 * (2 ^ (4 - xs.length) - 1)) on ∧ xs.length ≤ 4 ∧ ∀ p ∈ xs, ∃ i : Nat, p = .int (i : Nat) ∧ i ∈ here) _ _ [0, 0, 0, 0, 0] Steps.name ?_ ?_
   · refine ⟨⟨rfl, fun j => ?_⟩, by simpa using hlen, fun p hp => ?_⟩
     · have h0 : (0 : Int) ≤ 128 * (2 ^ (4 - (intsP here.reverse).length) - 1) := by
        have : (0 : Int) < 2 ^ (4 - (intsP here.reverse).length) := Int.pow_pos (by decide)
        omega
       have hz : ([0, 0, 0, 0, 0] : List Int).getD j 0 = 0 := by
        match j with
        | 0 | 1 | 2 | 3 | 4 => rfl
        | j + 5 => rfl
       rw [hz]
       omega
     · obtain ⟨i, hi, rfl⟩ := List.mem_map.mp hp
       exact ⟨i, rfl, by simpa using hi⟩
   · rintro on p xs ⟨hs, hl4, hx⟩
     obtain ⟨i, rfl, hi⟩ := hx _ List.mem_cons_self
     obtain ⟨h4, hr, hu, hu5⟩ := hh i hi
     simp only [List.length_cons] at hs hl4
     let b : Int := 128 * (2 ^ (4 - (xs.length + 1)) - 1)
     have hb0 : 0 ≤ b := by
      have : (0 : Int) < 2 ^ (4 - (xs.length + 1)) := Int.pow_pos (by decide)
      show (0 : Int) ≤ 128 * (2 ^ (4 - (xs.length + 1)) - 1)
      omega
     have hb2 : b ≤ 2000 := small_bound _ (by omega)
     have hs' : Small b on := hs
     have hnext : Small (2 * b + 128) (worthStep rows up on i) := small_step hb0 hb2 hs'
     have hbn : 2 * b + 128 = 128 * (2 ^ (4 - xs.length) - 1) := by
      show 2 * (128 * (2 ^ (4 - (xs.length + 1)) - 1)) + 128 = (128 * (2 ^ (4 - xs.length) - 1) : Int)
      have e : 4 - xs.length = (4 - (xs.length + 1)) + 1 := by omega
      rw [e, Int.pow_succ]
      generalize (2 : Int) ^ (4 - (xs.length + 1)) = z
      omega
     refine ⟨⟨by rw [← hbn]; exact hnext, by omega, fun q hq => hx q (List.mem_cons_of_mem _ hq)⟩, _, As.name (.inl rfl), ?_⟩
     have hri : rows[i]? = some rows[i] := List.getElem?_eq_getElem hr
     let T : Int := 1 - 2 * (rows[i].2.1).fmod 2
     have hT : T = 1 ∨ T = -1 := turn_pm _
     have hon : on[i]? = some (on.getD i 0) := by
      have : i < on.length := by rw [hs'.1]; omega
      simp [List.getD, this]
     have huu : up[i]? = some (up.getD i 0) := by simp [List.getD, hu]
     let u : Nat := up.getD i 0
     have hou : on[u]? = some (on.getD u 0) := by
      have : u < on.length := by rw [hs'.1]; exact hu5
      simp [List.getD, this]
     have hxb := hs'.2 i
     let xx : Int := on.getD i 0 * T
     have hxx : -2000 ≤ xx ∧ xx ≤ 2000 := by
      show -2000 ≤ on.getD i 0 * T ∧ on.getD i 0 * T ≤ 2000
      rcases hT with h | h <;> rw [h] <;> omega
     let n : Int := leastN xx 400 1
     have hn1 : 1 ≤ n := leastN_ge xx 400 1
     have hn2 : n ≤ 34 := by
      rcases leastN_tight xx 400 1 with h | h
      · show leastN xx 400 1 ≤ 34; rw [h]; decide
      · show leastN xx 400 1 ≤ 34; omega
     have estep : worthStep rows up on i = on.set u (on.getD u 0 + T * (xx + 64 * n).fdiv (2 ^ (n - 1).toNat)) := by
      unfold worthStep
      simp only [hri, Option.map_some, Option.getD_some]
      rfl
     refine Exs.cons (Ex.assign (l := .fr (.int T)) (Ev.binop (by walk_at "ev") (Ev.binop (by walk_at "ev") (Ev.binop (Ev.item (Ev.item (by walk_at "ev") (by walk_at "ev") (Pidx.lst (p := rowP rows[i]) (by omega) (by omega) (by simp [hr]))) (by walk_at "ev") (Pidx.tup (j := 1) (by decide) (by decide) rfl rfl)) (by walk_at "ev") P2.modI) (P2.mulI (IntMulOk.of_left (by decide)))) P2.subI) (.inl rfl)) ?_
     refine Exs.cons (Ex.assign (l := .fr (.int xx)) (Ev.snap (Ev.binop (Ev.item (by walk_at "ev") (by walk_at "ev") (Pidx.lst (p := .int (on.getD i 0)) (by omega) (by omega) (by rw [Int.toNat_natCast, List.getElem?_map, hon]; rfl))) (by walk_at "ev") (P2.mulI (IntMulOk.of_left (PySem.intBits_le_64 (by omega) (by omega))))) rfl) (.inl rfl)) ?_
     refine Exs.cons (Ex.assign (by walk_at "ev") (.inl rfl)) ?_
     refine Exs.cons (Ex.while_ (leastN_loop (x := xx) (fun m => Ts.compare1 (Ev.binop (by walk_at "ev") (Ev.binop (by walk_at "ev") (by walk_at "ev") (P2.mulI (IntMulOk.of_left (by decide)))) P2.addI) (by walk_at "ev") P2.leI .bool) (fun m => Exs.cons (Ex.assign (by walk_at "ev") (.inl rfl)) (Exs.post ?_ Exs.nil)) 400 1 (by omega))) ?_
     · rw [upd_upd]; exact .refl
     have hpow : (0 : Int) < 2 ^ (n - 1).toNat := Int.pow_pos (by decide)
     have hpow2 : (2 : Int) ^ (n - 1).toNat ≤ 2 ^ 33 := pow2_le (by omega)
     refine Exs.cons (Ex.setItem (xs := on.map .int) (p := .int (on.getD u 0 + T * (xx + 64 * n).fdiv (2 ^ (n - 1).toNat))) (i := ((u : Nat) : Int)) rfl (Ev.snap (Ev.binop (Ev.item (by walk_at "ev") (Ev.item (by walk_at "ev") (by walk_at "ev") (Pidx.lst (p := .int ((u : Nat) : Int)) (by omega) (by omega) (by rw [Int.toNat_natCast, List.getElem?_map, huu]; rfl))) (Pidx.lst (p := .int (on.getD u 0)) (by omega) (by show ((u : Nat) : Int) < 2 ^ 63; have : u < 5 := hu5; omega) (by rw [Int.toNat_natCast, List.getElem?_map, hou]; rfl))) (Ev.binop (by walk_at "ev") (Ev.binop (Ev.binop (by walk_at "ev") (Ev.binop (by walk_at "ev") (by walk_at "ev") (P2.mulI (IntMulOk.of_left (by decide)))) P2.addI) (Ev.binop (by walk_at "ev") (Ev.binop (by walk_at "ev") (by walk_at "ev") P2.subI) (P2.powI (by omega) (by omega) (by decide))) (P2.divI (by omega) (divSmall (by omega)))) (P2.mulI (IntMulOk.of_left (PySem.intBits_le_64 (by omega) (by omega))))) P2.addI) rfl) (fun b' => Ev.item (by walk_at "ev") (by walk_at "ev") (Pidx.lst (p := .int ((u : Nat) : Int)) (by omega) (by omega) (by rw [Int.toNat_natCast, List.getElem?_map, huu]; rfl))) (Int.natCast_nonneg u) (by have : u < 5 := hu5; omega) (by rw [List.length_map, hs'.1]; have : u < 5 := hu5; omega)) ?_
     have em : (on.map PV.int).set (((u : Nat) : Int).toNat) (.int (on.getD u 0 + T * (xx + 64 * n).fdiv (2 ^ (n - 1).toNat))) = (worthStep rows up on i).map .int := by rw [estep, List.map_set]; rfl
     rw [em]
     exact Exs.post (LeL.le ⟨rfl, rfl, rfl, rfl, trivial⟩) Exs.nil
 · have hf := foldl_ints (fun on i => worthStep rows up on i) step (fun s i => rfl) here.reverse [0, 0, 0, 0, 0]
   rw [hf]
   unfold worthOf
   generalize hon : here.reverse.foldl (fun on i => worthStep rows up on i) [0, 0, 0, 0, 0] = on
   have hl5 : on.length = 5 := by
    rw [← hon]
    have : ∀ (xs : List Nat) (on : List Int), on.length = 5 → (xs.foldl (fun on i => worthStep rows up on i) on).length = 5 := by
     intro xs
     induction xs with
     | nil => intro on h; exact h
     | cons x r ih => intro on h; exact ih _ (by simp [worthStep, h])
    exact this _ _ rfl
   have h4 : (on.map PV.int)[4]? = some (.int (on.getD 4 0)) := getD_map (by omega)
   exact Ret.ret (Ev.snap (Ev.item (by walk_at "ev") (by walk_at "ev") (Pidx.lst (by decide) (by decide) h4)) rfl)
end
section
variable {C : Cx} {k : Nat}
theorem Ret.freeze {env : Env} {ρ : Rho} {rest : List Stmt} {l : Loc} (x : Str) {l0 l1 : Loc} (hx : ρ x = some l0) (e : frz l0 = some l1) (h : Ret C k env (upd ρ x l1) rest l) : Ret C k env ρ rest l := let ⟨ρ', r⟩ := h; ⟨ρ', Exs.freeze hx e r⟩
noncomputable def runsL : List (Int × Int) := [(173, 173), (847, 847), (6150, 6150), (6155, 6157), (8203, 8205), (8288, 8288), (65024, 65039), (65279, 65279)]
noncomputable def runAt (z : Int) : Int × Int := runsL.getD (z.fmod 8).toNat (0, 0)
noncomputable def codesOf (z : Int) : List Int := [(runAt z).1, (runAt z).2, (runAt z).1 + (z.fdiv 40).fmod ((runAt z).2 - (runAt z).1 + 1), (runAt z).1 - 1, (runAt z).2 + 1]
noncomputable def codeOf (z : Int) : Int := (codesOf z).getD ((z.fdiv 8).fmod 5).toNat 0
noncomputable def unseenOf (z : Int) : Bool := decide ((runAt z).1 ≤ codeOf z) && decide (codeOf z ≤ (runAt z).2)
noncomputable def signOf (z : Int) : Str := ⟨#[(codeOf z).toNat]⟩
theorem runs_ok : ∀ j < 8, 172 ≤ (runsL.getD j (0, 0)).1 ∧ (runsL.getD j (0, 0)).1 ≤ (runsL.getD j (0, 0)).2 ∧ (runsL.getD j (0, 0)).2 ≤ 70000 := by decide
theorem run_ok (z : Int) : 172 ≤ (runAt z).1 ∧ (runAt z).1 ≤ (runAt z).2 ∧ (runAt z).2 ≤ 70000 := by
 have h1 := Int.fmod_nonneg_of_pos z (show (0 : Int) < 8 by decide)
 have h2 := Int.fmod_lt_of_pos z (show (0 : Int) < 8 by decide)
 exact runs_ok _ (by omega)
theorem getD_lt {α : Type} {xs : List α} {j : Nat} {d : α} (h : j < xs.length) : xs[j]? = some (xs.getD j d) := by simp [List.getD, h]
theorem lt4 : ∀ j < 4, j = 0 ∨ j = 1 ∨ j = 2 ∨ j = 3 := by decide
theorem lt5 : ∀ j < 5, j = 0 ∨ j = 1 ∨ j = 2 ∨ j = 3 ∨ j = 4 := by decide
theorem code_ok (z : Int) : 171 ≤ codeOf z ∧ codeOf z ≤ 70001 := by
 obtain ⟨a, b, c⟩ := run_ok z
 have h1 := Int.fmod_nonneg_of_pos (z.fdiv 8) (show (0 : Int) < 5 by decide)
 have h2 := Int.fmod_lt_of_pos (z.fdiv 8) (show (0 : Int) < 5 by decide)
 have m1 := Int.fmod_nonneg_of_pos (z.fdiv 40) (show (0 : Int) < (runAt z).2 - (runAt z).1 + 1 by omega)
 have m2 := Int.fmod_lt_of_pos (z.fdiv 40) (show (0 : Int) < (runAt z).2 - (runAt z).1 + 1 by omega)
 unfold codeOf
 generalize hj : ((z.fdiv 8).fmod 5).toNat = j
 have hj5 : j < 5 := by omega
 rcases lt5 j hj5 with rfl | rfl | rfl | rfl | rfl
 · show 171 ≤ (runAt z).1 ∧ (runAt z).1 ≤ 70001; omega
 · show 171 ≤ (runAt z).2 ∧ (runAt z).2 ≤ 70001; omega
 · show 171 ≤ (runAt z).1 + (z.fdiv 40).fmod ((runAt z).2 - (runAt z).1 + 1) ∧ (runAt z).1 + (z.fdiv 40).fmod ((runAt z).2 - (runAt z).1 + 1) ≤ 70001; omega
 · show 171 ≤ (runAt z).1 - 1 ∧ (runAt z).1 - 1 ≤ 70001; omega
 · show 171 ≤ (runAt z).2 + 1 ∧ (runAt z).2 + 1 ≤ 70001; omega
theorem Ev.pairC {env : Env} {ρ : Rho} {a b : Int} {n1 n2 n : Nat} {p1 p2 pos : Pos} : Ev C k env ρ (.Tuple [.Constant (.int a) n1 p1, .Constant (.int b) n2 p2] n pos) (.fr (.tup [.int a, .int b])) := Ev.tuple (EvL.cons Ev.intC (EvL.cons Ev.intC EvL.nil)) (by rw [sizeLine_eq]; simp)
theorem EvL.pair {env : Env} {ρ : Rho} {a b : Int} {n1 n2 n : Nat} {p1 p2 pos : Pos} {es : List Expr} {ps : List PV} (h : EvL C k env ρ es ps) : EvL C k env ρ (.Tuple [.Constant (.int a) n1 p1, .Constant (.int b) n2 p2] n pos :: es) (.tup [.int a, .int b] :: ps) := EvL.cons Ev.pairC h
theorem strewn_spec (W : Wd C) (z : Int) : PN C (k + 1) (.ref fn_q20) [.int z] (.fr (.tup [.str (signOf z), .bool (unseenOf z)])) := by
 have F : IsDef C fn_q20 fd_q20 ["z"] (bodyOf st_q20) := isDef_of W (fun P => by kernel_rfl) (fun P => by kernel_rfl) (by kernel_rfl) rfl
 refine PN.ret F (Binds.plain fun vs hv => ?_) rfl fun L => ?_
 · obtain ⟨v, rfl⟩ := len1 hv; rfl
 obtain ⟨a, b, c⟩ := run_ok z
 obtain ⟨c1, c2⟩ := code_ok z
 have h1 := Int.fmod_nonneg_of_pos z (show (0 : Int) < 8 by decide)
 have h2 := Int.fmod_lt_of_pos z (show (0 : Int) < 8 by decide)
 have h3 := Int.fmod_nonneg_of_pos (z.fdiv 8) (show (0 : Int) < 5 by decide)
 have h4 := Int.fmod_lt_of_pos (z.fdiv 8) (show (0 : Int) < 5 by decide)
 refine Ret.step (Ex.assign (Ev.list (EvL.pair (EvL.pair (EvL.pair (EvL.pair (EvL.pair (EvL.pair (EvL.pair (EvL.pair EvL.nil)))))))) (by rw [sizeLine_eq]; decide)) (.inl rfl) (by kernel_rfl)) ?_
 refine Ret.freeze "runs" (l1 := .fr (.lst (runsL.map fun r => .tup [.int r.1, .int r.2]))) rfl rfl ?_
 have hr : (runsL.map fun r => PV.tup [.int r.1, .int r.2])[(z.fmod 8).toNat]? = some (.tup [.int (runAt z).1, .int (runAt z).2]) := by
  rw [List.getElem?_map, getD_lt (d := (0, 0)) (show (z.fmod 8).toNat < runsL.length by show _ < 8; omega)]
  rfl
 refine Ret.step (Ex.assignTup (Ev.item (by walk_at "ev") (by walk_at "ev") (Pidx.lst (by omega) (by omega) hr)) (As.tup (AsL.cons (As.name (.inl rfl)) (AsL.cons (As.name (.inl rfl)) AsL.nil)))) ?_
 have hc : ((codesOf z).map PV.int)[((z.fdiv 8).fmod 5).toNat]? = some (.int (codeOf z)) := getD_map (by show _ < 5; omega)
 refine Ret.step (Ex.assign (l := .fr (.int (codeOf z))) (Ev.item (a := .lst ((codesOf z).map .int)) (Ev.freeze (Ev.list (EvL.cons (by walk_at "ev") (EvL.cons (by walk_at "ev") (EvL.cons (Ev.binop (by walk_at "ev") (Ev.binop (Ev.binop (by walk_at "ev") (by walk_at "ev") (P2.divI (by decide) (divSmall (by decide)))) (Ev.binop (Ev.binop (by walk_at "ev") (by walk_at "ev") P2.subI) (by walk_at "ev") P2.addI) (P2.modI (by omega))) P2.addI) (EvL.cons (by walk_at "ev") (EvL.cons (by walk_at "ev") EvL.nil))))) (by simp [codesOf, sizeLine_eq]))) (by walk_at "ev") (Pidx.lst (by omega) (by omega) hc)) (.inl rfl)) ?_
 refine Ret.ret (Ev.tuple (EvL.cons (Ev.callB (by walk_at "ev") (by walk_at "evl") (PN.chr (by omega) (by omega))) (EvL.cons (Ev.chain2 (x := decide ((runAt z).1 ≤ codeOf z)) (y := .bool (unseenOf z)) (by walk_at "ev") (by walk_at "ev") (fun _ => by walk_at "ev") P2.leI (fun h => ?_) (fun h => ?_)) EvL.nil)) (by simp [sizeLine_eq]))
 · unfold unseenOf
   rw [h, Bool.true_and]
   exact P2.leI
 · unfold unseenOf
   rw [h, Bool.false_and]
end
section
variable {C : Cx} {k : Nat}
theorem Ev.callG (W : Wd C) {env : Env} {ρ : Rho} {f e : Expr} {es : List Expr} {pos : Pos} {a : Addr} {fd : FuncData} {ps : List PV} {l : Loc} (hf : Ev C k env ρ f (.fr (.con (.ref a)))) (ho : ∀ P, (KK P).lookup a = some ⟨.type "function", none, .func fd, #[]⟩)
 (ha : EvL C k env ρ (e :: es) ps) (h : PN C k (.ref a) ps l)
 (hc : eval (.Call f (e :: es) [] pos) env = (do callWith pos (← eval f env) [] (backTo pos (starEach (e :: es) env)) (backToKw pos (keywordEach [] env))) := by rfl)
 (he : starEach (e :: es) env = (false, eval e env) :: starEach es env := by rfl) :
 Ev C k env ρ (.Call f (e :: es) [] pos) l := Ev.callF hf (W.X _ _ (ho _)) rfl ha h hc he
noncomputable def yOf (x : Int) : Int := x.fmod (10 ^ (12 : Int).toNat)
noncomputable def leadOf (y : Int) : Str := Txt.mul " " (y.fmod 4) ++ Txt.mul "\t" ((y.fdiv 4).fmod 2) ++ Txt.mul " " ((y.fdiv 8).fmod 3) ++ Txt.mul "\t" ((y.fdiv 24).fmod 2) ++ Txt.mul " " ((y.fdiv 48).fmod 2)
noncomputable def opsS : Str := "( ) [ ] : , ; + - * / | & < > = . % { } == != <= >= ~ ^ << >> ** += -= *= /= %= &= |= ^= <<= >>= **= // //= @ @= -> ... := !"
noncomputable def opsL : List Str := (["(", ")", "[", "]", ":", ",", ";", "+", "-", "*", "/", "|", "&", "<", ">", "=", ".", "%", "{", "}", "==", "!=", "<=", ">=", "~", "^", "<<", ">>", "**", "+=", "-=", "*=", "/=", "%=", "&=", "|=", "^=", "<<=", ">>=", "**=", "//", "//=", "@", "@=", "->", "...", ":=", "!"] : List String).map Str.ofString
noncomputable def opK (y : Int) : Int := (y.fdiv 96).fmod 48
noncomputable def opOf (y : Int) : Str := opsL.getD (opK y).toNat ""
noncomputable def placeOf (i y : Int) : Int := 6 * i + (y.fdiv 4608).fmod (6 + 2 * i.fdiv 3)
noncomputable def firstsL : List Int := [97, 65, 119808, 119860, 119912, 120016, 120172, 120224, 120276, 120328, 120380, 120432]
noncomputable def firstOf (y : Int) : Int := firstsL.getD ((y.fdiv 36864).fmod 12).toNat 0
noncomputable def zOf (y : Int) : Int := y.fdiv 442368
noncomputable def bareOf (i y : Int) : Str := leadOf y ++ opOf y ++ ⟨#[(firstOf y + placeOf i y).toNat]⟩
noncomputable def letterOf (i y : Int) : Str := ⟨#[(97 + placeOf i y).toNat]⟩
noncomputable def atOf (i y : Int) : Int := ((zOf y).fdiv 640).fmod ((bareOf i y).length + 1)
noncomputable def textOf (i y : Int) : Str := if unseenOf (zOf y) then Txt.slice (bareOf i y) none (some (atOf i y)) ++ signOf (zOf y) ++ Txt.slice (bareOf i y) (some (atOf i y)) none else bareOf i y ++ signOf (zOf y)
noncomputable def wordOf (i y : Int) : Str := if unseenOf (zOf y) then letterOf i y else letterOf i y ++ signOf (zOf y)
noncomputable def rowOf (i x : Int) : RowT := (leadOf (yOf x), 7 + opK (yOf x), wordOf i (yOf x) ++ Str.ofString (toString (7 + opK (yOf x))), textOf i (yOf x))
theorem firsts_ok : ∀ j < 12, 65 ≤ firstsL.getD j 0 ∧ firstsL.getD j 0 ≤ 120432 := by decide
theorem first_ok (y : Int) : 65 ≤ firstOf y ∧ firstOf y ≤ 120432 := by
 have h1 := Int.fmod_nonneg_of_pos (y.fdiv 36864) (show (0 : Int) < 12 by decide)
 have h2 := Int.fmod_lt_of_pos (y.fdiv 36864) (show (0 : Int) < 12 by decide)
 exact firsts_ok _ (by omega)
theorem place_ok {i : Int} (y : Int) (h0 : 0 ≤ i) (h4 : i < 4) : 0 ≤ placeOf i y ∧ placeOf i y ≤ 26 := by
 unfold placeOf
 have e : i.fdiv 3 = 0 ∨ i.fdiv 3 = 1 := by
  rw [Int.fdiv_eq_ediv_of_nonneg _ (by decide)]; omega
 rcases e with e | e <;> rw [e]
 · have h1 := Int.fmod_nonneg_of_pos (y.fdiv 4608) (show (0 : Int) < 6 + 2 * 0 by decide)
   have h2 := Int.fmod_lt_of_pos (y.fdiv 4608) (show (0 : Int) < 6 + 2 * 0 by decide)
   omega
 · have h1 := Int.fmod_nonneg_of_pos (y.fdiv 4608) (show (0 : Int) < 6 + 2 * 1 by decide)
   have h2 := Int.fmod_lt_of_pos (y.fdiv 4608) (show (0 : Int) < 6 + 2 * 1 by decide)
   omega
theorem mul_len (s : Str) (hs : s.length = 1) (n : Int) (h0 : 0 ≤ n) (h3 : n ≤ 3) : (Txt.mul s n).length ≤ 3 := by
 have e : n = 0 ∨ n = 1 ∨ n = 2 ∨ n = 3 := by omega
 obtain ⟨a⟩ := s
 simp [Str.length] at hs
 rcases e with rfl | rfl | rfl | rfl <;> simp [Txt.mul, Str.length, Str.empty, hs, List.replicate]
theorem len_app (a b : Str) : (a ++ b).length = a.length + b.length := by
 show (Array.size (_ ++ _)) = _
 simp [Str.length]
theorem op_len : ∀ j < 48, (opsL.getD j "").length ≤ 3 := by decide +kernel
theorem num_len : ∀ j < 48, (Str.ofString (toString (7 + ((j : Nat) : Int)))).length ≤ 2 := by decide +kernel
theorem opK_ok (y : Int) : 0 ≤ opK y ∧ opK y < 48 := ⟨Int.fmod_nonneg_of_pos _ (by decide), Int.fmod_lt_of_pos _ (by decide)⟩
theorem lead_len (y : Int) : (Txt.mul " " (y.fmod 4)).length ≤ 3 ∧ (Txt.mul "\t" ((y.fdiv 4).fmod 2)).length ≤ 3 ∧ (Txt.mul " " ((y.fdiv 8).fmod 3)).length ≤ 3 ∧ (Txt.mul "\t" ((y.fdiv 24).fmod 2)).length ≤ 3 ∧ (Txt.mul " " ((y.fdiv 48).fmod 2)).length ≤ 3 := by
 have a1 := Int.fmod_nonneg_of_pos y (show (0 : Int) < 4 by decide)
 have a2 := Int.fmod_lt_of_pos y (show (0 : Int) < 4 by decide)
 have b1 := Int.fmod_nonneg_of_pos (y.fdiv 4) (show (0 : Int) < 2 by decide)
 have b2 := Int.fmod_lt_of_pos (y.fdiv 4) (show (0 : Int) < 2 by decide)
 have c1 := Int.fmod_nonneg_of_pos (y.fdiv 8) (show (0 : Int) < 3 by decide)
 have c2 := Int.fmod_lt_of_pos (y.fdiv 8) (show (0 : Int) < 3 by decide)
 have d1 := Int.fmod_nonneg_of_pos (y.fdiv 24) (show (0 : Int) < 2 by decide)
 have d2 := Int.fmod_lt_of_pos (y.fdiv 24) (show (0 : Int) < 2 by decide)
 have e1 := Int.fmod_nonneg_of_pos (y.fdiv 48) (show (0 : Int) < 2 by decide)
 have e2 := Int.fmod_lt_of_pos (y.fdiv 48) (show (0 : Int) < 2 by decide)
 exact ⟨mul_len _ rfl _ a1 (by omega), mul_len _ rfl _ b1 (by omega), mul_len _ rfl _ c1 (by omega), mul_len _ rfl _ d1 (by omega), mul_len _ rfl _ e1 (by omega)⟩
theorem mulOkB {x : Str} (hx : x.length ≤ 1) {n : Int} (h0 : 0 ≤ n) (h4 : n < 4) : MulOk x n := mulOk_of 1 3 hx (by omega) (by omega) (by decide) (by decide)
theorem szA {a b : Str} {m n : Nat} (ha : a.length ≤ m) (hb : b.length ≤ n) (h : m + n ≤ 1000 := by decide) : a.length + b.length ≤ sizeLine := by
 rw [sizeLine_eq]
 exact Nat.le_trans (Nat.add_le_add ha hb) (Nat.le_trans h (by decide))
theorem lenA {a b : Str} {m n : Nat} (ha : a.length ≤ m) (hb : b.length ≤ n) : (a ++ b).length ≤ m + n := by rw [len_app]; exact Nat.add_le_add ha hb
theorem szN {n m : Nat} (h : n ≤ m) (hm : m ≤ 1000 := by decide) : n ≤ sizeLine := by
 rw [sizeLine_eq]
 exact Nat.le_trans h (Nat.le_trans hm (by decide))
theorem row_spec (W : Wd C) (i x : Int) (hi0 : 0 ≤ i) (hi4 : i < 4) : PN C (k + 2) (.ref fn_q23) [.int i, .int x] (.fr (rowP (rowOf i x))) := by
 have F : IsDef C fn_q23 fd_q23 ["i", "x"] (bodyOf st_q23) := isDef_of W (fun P => by kernel_rfl) (fun P => by kernel_rfl) (by kernel_rfl) rfl
 refine PN.ret F (Binds.plain fun vs hv => ?_) rfl fun L => ?_
 · obtain ⟨v, w, rfl⟩ := len2 hv; rfl
 have hy : ∃ y, y = yOf x := ⟨_, rfl⟩
 obtain ⟨y, hy⟩ := hy
 obtain ⟨l1, l2, l3, l4, l5⟩ := lead_len y
 obtain ⟨p1, p2⟩ := place_ok y hi0 hi4
 obtain ⟨f1, f2⟩ := first_ok y
 obtain ⟨k1, k2⟩ := opK_ok y
 have ol := op_len (opK y).toNat (by omega)
 refine Ret.step (Ex.assign (l := .fr (.int (yOf x))) (Ev.binop (by walk_at "ev") (Ev.binop (by walk_at "ev") (by walk_at "ev") (P2.powI (by decide) (by decide) (by decide))) (P2.modI (by decide))) (.inl rfl)) ?_
 rw [← hy]
 have a1 := Int.fmod_nonneg_of_pos y (show (0 : Int) < 4 by decide)
 have a2 := Int.fmod_lt_of_pos y (show (0 : Int) < 4 by decide)
 have b1 := Int.fmod_nonneg_of_pos (y.fdiv 4) (show (0 : Int) < 2 by decide)
 have b2 := Int.fmod_lt_of_pos (y.fdiv 4) (show (0 : Int) < 2 by decide)
 have c1 := Int.fmod_nonneg_of_pos (y.fdiv 8) (show (0 : Int) < 3 by decide)
 have c2 := Int.fmod_lt_of_pos (y.fdiv 8) (show (0 : Int) < 3 by decide)
 have d1 := Int.fmod_nonneg_of_pos (y.fdiv 24) (show (0 : Int) < 2 by decide)
 have d2 := Int.fmod_lt_of_pos (y.fdiv 24) (show (0 : Int) < 2 by decide)
 have e1 := Int.fmod_nonneg_of_pos (y.fdiv 48) (show (0 : Int) < 2 by decide)
 have e2 := Int.fmod_lt_of_pos (y.fdiv 48) (show (0 : Int) < 2 by decide)
 refine Ret.step (Ex.assign (l := .fr (.str (leadOf y))) (Ev.binop (Ev.binop (Ev.binop (Ev.binop (Ev.binop Ev.strC (by walk_at "ev") (P2.mulS (mulOkB (by decide) a1 a2))) (Ev.binop Ev.strC (by walk_at "ev") (P2.mulS (mulOkB (by decide) b1 (Int.lt_trans b2 (by decide))))) (P2.addS (szA l1 l2)))
  (Ev.binop Ev.strC (by walk_at "ev") (P2.mulS (mulOkB (by decide) c1 (Int.lt_trans c2 (by decide))))) (P2.addS (szA (lenA l1 l2) l3)))
  (Ev.binop Ev.strC (by walk_at "ev") (P2.mulS (mulOkB (by decide) d1 (Int.lt_trans d2 (by decide))))) (P2.addS (szA (lenA (lenA l1 l2) l3) l4)))
  (Ev.binop Ev.strC (by walk_at "ev") (P2.mulS (mulOkB (by decide) e1 (Int.lt_trans e2 (by decide))))) (P2.addS (szA (lenA (lenA (lenA l1 l2) l3) l4) l5))) (.inl rfl)) ?_
 have ll : (leadOf y).length ≤ 15 := lenA (lenA (lenA (lenA l1 l2) l3) l4) l5
 have lop : (opOf y).length ≤ 3 := ol
 refine Ret.step (Ex.assign (l := .ol (opsL.map .str)) (Ev.split (x := opsS) (y := " ") Ev.strC Ev.strC (by decide +kernel) (by decide +kernel) (by decide +kernel) (by rw [sizeLine_eq]; decide +kernel) (by rw [sizeLine_eq]; decide +kernel) (by decide +kernel)) (.inl rfl)) ?_
 refine Ret.freeze "signs" (l1 := .fr (.lst (opsL.map .str))) rfl rfl ?_
 refine Ret.step (Ex.assign (l := .fr (.int (opK y))) (by walk_at "ev") (.inl rfl)) ?_
 refine Ret.step (Ex.assign (l := .fr (.int (placeOf i y))) (Ev.binop (by walk_at "ev") (Ev.binop (Ev.binop (by walk_at "ev") (by walk_at "ev") (P2.divI (by decide) (divSmall (by decide)))) (Ev.binop (by walk_at "ev") (Ev.binop (by walk_at "ev") (Ev.binop (by walk_at "ev") (by walk_at "ev") (P2.divI (by decide) (divSmall (by decide)))) (P2.mulI (IntMulOk.of_left (by decide)))) P2.addI) (P2.modI ?_)) P2.addI) (.inl rfl)) ?_
 · rw [Int.fdiv_eq_ediv_of_nonneg _ (by decide)]; omega
 have hf : (firstsL.map PV.int)[((y.fdiv 36864).fmod 12).toNat]? = some (.int (firstOf y)) := by
  have h1 := Int.fmod_nonneg_of_pos (y.fdiv 36864) (show (0 : Int) < 12 by decide)
  have h2 := Int.fmod_lt_of_pos (y.fdiv 36864) (show (0 : Int) < 12 by decide)
  exact getD_map (by show _ < 12; omega)
 refine Ret.step (Ex.assign (l := .fr (.int (firstOf y))) (Ev.item (a := .lst (firstsL.map .int)) (Ev.freeze (Ev.list ?_ (by simp [firstsL, sizeLine_eq]))) (by walk_at "ev") (Pidx.lst ?_ ?_ hf)) (.inl rfl)) ?_
 · exact EvL.cons Ev.intC (EvL.cons Ev.intC (EvL.cons Ev.intC (EvL.cons Ev.intC (EvL.cons Ev.intC (EvL.cons Ev.intC (EvL.cons Ev.intC (EvL.cons Ev.intC (EvL.cons Ev.intC (EvL.cons Ev.intC (EvL.cons Ev.intC (EvL.cons Ev.intC EvL.nil)))))))))))
 · exact Int.fmod_nonneg_of_pos _ (by decide)
 · have := Int.fmod_lt_of_pos (y.fdiv 36864) (show (0 : Int) < 12 by decide)
   omega
 refine Ret.step (Ex.assign (l := .fr (.int (zOf y))) (Ev.binop (by walk_at "ev") (by walk_at "ev") (P2.divI (by decide) (divSmall (by decide)))) (.inl rfl)) ?_
 refine Ret.step (Ex.assignTup (Ev.callG W (fd := fd_q20) (by walk_at "ev") (fun P => by kernel_rfl) (by walk_at "evl") (strewn_spec W (zOf y))) (As.tup (AsL.cons (As.name (.inl rfl)) (AsL.cons (As.name (.inl rfl)) AsL.nil)))) ?_
 have hol : opsL.length = 48 := by decide +kernel
 have hlt : (opK y).toNat < opsL.length := by omega
 have hop : (opsL.map PV.str)[(opK y).toNat]? = some (.str (opOf y)) := by rw [List.getElem?_map, getD_lt (α := Str) (d := "") hlt]; rfl
 refine Ret.step (Ex.assign (l := .fr (.str (bareOf i y))) (Ev.binop (Ev.binop (by walk_at "ev") (Ev.item (by walk_at "ev") (by walk_at "ev") (Pidx.lst (by omega) (by omega) hop)) (P2.addS (szA ll lop))) (Ev.callB (by walk_at "ev") (EvL.cons (Ev.binop (by walk_at "ev") (by walk_at "ev") P2.addI) EvL.nil) (PN.chr (by omega) (by omega))) (P2.addS ?_)) (.inl rfl)) ?_
 · exact szA (lenA ll lop) (Nat.le_refl 1)
 have bl : (bareOf i y).length ≤ 19 := by
  unfold bareOf
  exact lenA (n := 1) (lenA ll lop) (Nat.le_refl 1)
 have sl : (signOf (zOf y)).length = 1 := rfl
 refine Ret.step (Ex.assign (l := .fr (.str (letterOf i y))) (Ev.callB (by walk_at "ev") (EvL.cons (Ev.binop (by walk_at "ev") (by walk_at "ev") P2.addI) EvL.nil) (PN.chr (by omega) (by omega))) (.inl rfl)) ?_
 have lt1 : (letterOf i y).length = 1 := rfl
 refine Ret.step (ρ1 := ofL [("lead", .fr (.str (leadOf y))), ("k", .fr (.int (opK y))), ("word", .fr (.str (wordOf i y))), ("text", .fr (.str (textOf i y)))]) (Ex.ite (b := unseenOf (zOf y)) (Ts.val (Ev.name rfl) Pt.bool) (fun hu => ?_) (fun hu => ?_)) ?_
 · refine Exs.cons (Ex.assign (l := .fr (.int (atOf i y))) (Ev.binop (Ev.binop (by walk_at "ev") (by walk_at "ev") (P2.divI (by decide) (divSmall (by decide)))) (Ev.binop (Ev.callB (by walk_at "ev") (by walk_at "evl") (PN.lenS (by omega))) (by walk_at "ev") P2.addI) (P2.modI (by omega))) (.inl rfl)) ?_
   refine Exs.cons (Ex.assign (l := .fr (.str (textOf i y))) ?_ (.inl rfl)) ?_
   · have e : textOf i y = Txt.slice (bareOf i y) none (some (atOf i y)) ++ signOf (zOf y) ++ Txt.slice (bareOf i y) (some (atOf i y)) none := by unfold textOf; rw [if_pos hu]
     rw [e]
     have q1 := Txt.slice_le (bareOf i y) none (some (atOf i y))
     have q2 := Txt.slice_le (bareOf i y) (some (atOf i y)) none
     exact Ev.binop (Ev.binop (Ev.sliceS (by walk_at "ev") .none (.some (by walk_at "ev")) (szN bl)) (by walk_at "ev") (P2.addS (szA (Nat.le_trans q1 bl) (Nat.le_of_eq sl)))) (Ev.sliceS (by walk_at "ev") (.some (by walk_at "ev")) .none (szN bl)) (P2.addS (szA (lenA (Nat.le_trans q1 bl) (Nat.le_of_eq sl)) (Nat.le_trans q2 bl)))
   have ew : wordOf i y = letterOf i y := by unfold wordOf; rw [if_pos hu]
   rw [ew]
   exact Exs.post (LeL.le ⟨rfl, rfl, rfl, rfl, trivial⟩) Exs.nil
 · have et : textOf i y = bareOf i y ++ signOf (zOf y) := by unfold textOf; rw [hu]; rfl
   have ew : wordOf i y = letterOf i y ++ signOf (zOf y) := by unfold wordOf; rw [hu]; rfl
   rw [et, ew]
   refine Exs.cons (Ex.assign (Ev.binop (by walk_at "ev") (by walk_at "ev") (P2.addS (szA bl (Nat.le_of_eq sl)))) (.inl rfl)) ?_
   refine Exs.cons (Ex.assign (Ev.binop (by walk_at "ev") (by walk_at "ev") (P2.addS (szA (Nat.le_of_eq lt1) (Nat.le_of_eq sl)))) (.inl rfl)) ?_
   exact Exs.post (LeL.le ⟨rfl, rfl, rfl, rfl, trivial⟩) Exs.nil
 have wl : (wordOf i y).length ≤ 2 := by
  unfold wordOf; split
  · exact Nat.le_trans (Nat.le_of_eq lt1) (by decide)
  · exact lenA (Nat.le_of_eq lt1) (Nat.le_of_eq sl)
 have nl := num_len (opK y).toNat (by omega)
 rw [show (((opK y).toNat : Nat) : Int) = opK y by omega] at nl
 have hlog := Nat.log2_le_self (7 + opK y).natAbs
 have er : rowP (rowOf i x) = .tup [.str (leadOf y), .int (7 + opK y), .str (wordOf i y ++ Str.ofString (toString (7 + opK y))), .str (textOf i y)] := by rw [hy]; rfl
 rw [er]
 exact Ret.ret (Ev.tuple (EvL.cons (by walk_at "ev") (EvL.cons (by walk_at "ev") (EvL.cons (Ev.binop (by walk_at "ev") (Ev.callT (by walk_at "ev") (EvL.cons (by walk_at "ev") EvL.nil) (PN.strI (by omega))) (P2.addS (szA wl nl))) (EvL.cons (by walk_at "ev") EvL.nil)))) (by simp [sizeLine_eq]))
end
section
variable {C : Cx} {k : Nat}
noncomputable def keptOf (text : Str) : List Str := (text.cps.toList.filter fun (c : Nat) => !isB1 (c : Int)).map b3
noncomputable def restOf (kept : Str) : Str := Txt.slice kept (some ((wsOf kept).2.2.1 : Nat)) none
noncomputable def inEx (x : Str) : Bool := (Spec.lookup (.str x) exD).isSome
noncomputable def sizesOf (rest : Str) : List Int := ([1, 2, 3] : List Int).filter fun j => inEx (Txt.slice rest none (some j))
noncomputable def readP (kept : Str) (M num : Int) : PV := .tup [wsP kept, .int num, .str (Txt.slice (restOf kept) (some M) none ++ Str.ofString (toString num))]
noncomputable def signOfP (p : PV) : Nat := match p with
 | .str x => x.cps.toList.headD 0
 | _ => 0
theorem kept_rows (text : Str) : (((signs text).filter fun p => !isB1 (signOfP p)).map fun p => PV.str (b3 (signOfP p))) = (keptOf text).map .str := by
 unfold keptOf
 simp only [List.filter_map, List.map_map]
 rfl
theorem size_rows (rest : Str) : ((([.int 1, .int 2, .int 3] : List PV).filter fun p => match p with | .int j => inEx (Txt.slice rest none (some j)) | _ => false).map fun p => p) = (sizesOf rest).map .int := by
 unfold sizesOf
 rw [List.map_id', show ([.int 1, .int 2, .int 3] : List PV) = ([1, 2, 3] : List Int).map .int from rfl, List.filter_map]
 rfl
theorem read_spec (W : Wd C) (text kept : Str) (M num : Int) (hk : Txt.join "" (keptOf text) = kept) (hok : JoinOk "" (keptOf text) = true) (hlow : ∀ c ∈ text.cps.toList, isB1 c = false → (lowS ⟨#[c]⟩).length ≤ 10)
 (hlen : kept.length ≤ 1000) (htl : text.cps.toList.length ≤ 1000) (hM : M ∈ sizesOf (restOf kept)) (hmax : ∀ a ∈ sizesOf (restOf kept), a ≤ M) (hnum : Spec.lookup (.str (Txt.slice (restOf kept) none (some M))) exD = some (.int num)) (hlog : num.natAbs.log2 < 1920) (hnl : (Str.ofString (toString num)).length ≤ 1000) :
 PN C (k + 3) (.ref fn_q21) [.str text] (.fr (readP kept M num)) := by
 have F : IsDef C fn_q21 fd_q21 ["text"] (bodyOf st_q21) := isDef_of W (fun P => by kernel_rfl) (fun P => by kernel_rfl) (by kernel_rfl) rfl
 refine PN.ret F (Binds.plain fun vs hv => ?_) rfl fun L => ?_
 · obtain ⟨v, rfl⟩ := len1 hv; rfl
 have X := W.X
 have O := ws_cls C.w.params
 refine Ret.step (Ex.assign (l := .fr (.str kept)) ?_ (.inl rfl)) ?_
 · rw [← hk]
   refine Ev.join Ev.strC (Ev.freeze ?_) hok
   rw [← kept_rows]
   refine Ev.comp (EvIt.of (by walk_at "ev") Iter.str) (by rfl) Self.itr (fun Ca => ?_) ?_
   · refine CLoop.name (.inl rfl) (fun p => !isB1 (signOfP p)) (fun p => PV.str (b3 (signOfP p))) (signs text) _ _ Steps.name (fun _ => rfl) ?_ ?_
     · intro p hp
       obtain ⟨c, hc, rfl⟩ := List.mem_map.mp hp
       exact TsF.one (Ts.not (Ts.val (Ev.callG W (fd := fd_q18) (by walk_at "ev") (fun P => by kernel_rfl) (by walk_at "evl") (b1_spec W c)) Pt.bool))
     · intro p hp hb
       obtain ⟨c, hc, rfl⟩ := List.mem_map.mp hp
       exact Ev.callG W (fd := fd_q17) (by walk_at "ev") (fun P => by kernel_rfl) (by walk_at "evl") (b3_spec W c (hlow c hc (by simpa [signOfP] using hb)))
   · have h1 : ((signs text).filter fun p => !isB1 (signOfP p)).length ≤ (signs text).length := List.length_filter_le _ _
     rw [List.length_map, sizeLine_eq]
     rw [List.length_map] at h1
     omega
 have FI : IsDef C fn_q3 fd_q3 ["self", "ws"] (bodyOf st_q3) := isDef_of W (fun P => by kernel_rfl) (fun P => by kernel_rfl) (by kernel_rfl) rfl
 refine Ret.step (Ex.assign (l := .ins none cl_q4 wsNames (wsVals kept (wsOf kept))) (Ev.new (args := [.str kept]) (bps := [.str kept]) (by walk_at "ev") (by walk_at "evl") X O (ws_keep _) (ws_ini _) (ws_iniT _) FI (fun a => Binds.plain fun vs hv => ?_) rfl (ws_init W kept hlen)) (.inl rfl)) ?_
 · obtain ⟨v, w, rfl⟩ := len2 hv; rfl
 refine Ret.freeze "lead" (l1 := .fr (wsP kept)) rfl rfl ?_
 have hr : (restOf kept).length ≤ kept.length := Txt.slice_le _ _ _
 refine Ret.step (Ex.assign (l := .fr (.str (restOf kept))) (Ev.sliceS (by walk_at "ev") (.some (Ev.attr (by walk_at "ev") X O (ws_n _) rfl)) .none (by rw [sizeLine_eq]; omega)) (.inr ⟨rfl, _, rfl, Nat.lt_succ_self L⟩)) ?_
 refine Ret.step (Ex.assign (l := .fr (.int M)) (Ev.callB (by walk_at "ev") (EvL.cons (Ev.freeze (xs := (sizesOf (restOf kept)).map .int) ?_) EvL.nil) (PN.maxL hM hmax)) (.inl rfl)) ?_
 · rw [← size_rows]
   refine Ev.comp (EvIt.of (Ev.tuple (ps := [.int 1, .int 2, .int 3]) (EvL.cons Ev.intC (EvL.cons Ev.intC (EvL.cons Ev.intC EvL.nil))) (by rw [sizeLine_eq]; decide)) Iter.tup) (by rfl) Self.itr (fun Ca => ?_) ?_
   · refine CLoop.name (.inl rfl) (fun p => match p with | .int j => inEx (Txt.slice (restOf kept) none (some j)) | _ => false) (fun p => p) _ _ _ Steps.name (fun _ => rfl) ?_ ?_
     · intro p hp
       have : p = .int 1 ∨ p = .int 2 ∨ p = .int 3 := by simpa using hp
       rcases this with rfl | rfl | rfl <;> exact TsF.one (Ts.compare1 (Ev.sliceS (by walk_at "ev") .none (.some (by walk_at "ev")) (by rw [sizeLine_eq]; omega)) (by walk_at "ev") (P2.inTabS W.ex) .bool)
     · intro p hp hb
       exact Ev.name rfl
   · have h1 : ((([.int 1, .int 2, .int 3] : List PV).filter fun p => match p with | .int j => inEx (Txt.slice (restOf kept) none (some j)) | _ => false)).length ≤ ([.int 1, .int 2, .int 3] : List PV).length := List.length_filter_le _ _
     rw [List.length_map, sizeLine_eq]
     exact Nat.le_trans h1 (by decide)
 refine Ret.step (Ex.assign (l := .fr (.int num)) (Ev.itemTabS (by walk_at "ev") (Ev.sliceS (by walk_at "ev") .none (.some (by walk_at "ev")) (by rw [sizeLine_eq]; omega)) W.ex hnum rfl) (.inl rfl)) ?_
 have hs := Txt.slice_le (restOf kept) (some M) none
 exact Ret.ret (Ev.tuple (EvL.cons (by walk_at "ev") (EvL.cons (by walk_at "ev") (EvL.cons (Ev.binop (Ev.sliceS (by walk_at "ev") (.some (by walk_at "ev")) .none (by rw [sizeLine_eq]; omega)) (Ev.callT (by walk_at "ev") (EvL.cons (by walk_at "ev") EvL.nil) (PN.strI hlog)) (P2.addS (by rw [sizeLine_eq]; omega))) EvL.nil))) (by simp [sizeLine_eq]))
end
section
variable {C : Cx} {k : Nat} {env : Env} {ρ : Rho}
theorem Ex.addH (W : Wd C) {x : Str} {px apos pos spos : Pos} {e1 e2 : Expr} {q : Option (Addr × Addr)} {xs : HdT} {n v : Str} {pl : Sem Bool} (hx : ρ x = some (.hd q cl_q5 "_headers" (hdRows xs)))
 (h1 : ∀ a b, Ev C (k + 2) env (upd ρ x (.hd (some (a, b)) cl_q5 "_headers" (hdRows xs))) e1 (.fr (.str n))) (h2 : ∀ a b, Ev C (k + 2) env (upd ρ x (.hd (some (a, b)) cl_q5 "_headers" (hdRows xs))) e2 (.fr (.str v)))
 (hn : okName n) (hv : okVal v) (hnl : n.length ≤ 100000) (hvl : v.length ≤ 100000) (hl : xs.length ≤ 100000)
 (hd : (x == ("__debug__" : Str)) = false := by decide)
 (hc : eval (.Call (.Attribute (.Name x px) "add_header" apos) [e1, e2] [] pos) env = (do
  let ov ← eval (.Name x px) env
  standAt apos.atName
  let (f, first) ← holding [ov] (getMethod ov "add_header" pl)
  callWith pos f first (backTo pos (starEach [e1, e2] env)) []) := by rfl)
 (he1 : starEach [e1, e2] env = (false, eval e1 env) :: starEach [e2] env := by rfl) (he2 : starEach [e2] env = (false, eval e2 env) :: starEach [] env := by rfl)
 (hplain : (backTo pos (starEach [e2] env)).any (·.1) = false := by rfl)
 (hi : interactive env = false := by rfl) (hs : swapsWith (.Call (.Attribute (.Name x px) "add_header" apos) [e1, e2] [] pos) none spos.line env = pure false := by rfl) :
 Ex C (k + 2) env ρ (.Expr (.Call (.Attribute (.Name x px) "add_header" apos) [e1, e2] [] pos) spos) .next (upd ρ x (.hd none cl_q5 "_headers" (hdRows (xs ++ [(n, v)])))) := by
 have F : IsDef C fn_q7 fd_q7 ["self", "_name", "_value", "_params"] (bodyOf st_q7) := isDef_of W (fun P => by kernel_rfl) (fun P => by kernel_rfl) (by kernel_rfl) rfl
 exact Ex.callOwn (args := [.str n, .str v]) (bps := [.str n, .str v, .dict0]) hx (fun a b => EvL.cons (h1 a b) (EvL.cons (h2 a b) EvL.nil he2) he1) W.X (hd_cls C.w.params) (methOk.of (hd_add C.w.params)) (by decide) F
  (fun a => Binds.kwargs fun vs hv => by
   obtain ⟨v1, v2, v3, rfl⟩ := len3 hv; rfl) rfl (hd_addB W xs n v hn hv hnl hvl hl) hd hc he1 hplain hi hs
noncomputable abbrev iniDef : Addr := match fd_q10.defaults with
 | .ref T => T
 | _ => 0
theorem tup_ini (P : Params) : (KK P).lookup iniDef = some ⟨.type "tuple", none, .seq #[.none] 0, #[]⟩ := by kernel_rfl
theorem Ev.headers (W : Wd C) {f e : Expr} {pos : Pos} (hf : Ev C (k + 2) env ρ f (.fr (.con (.ref cl_q5)))) (ha : Ev C (k + 2) env ρ e (.ol []))
 (hc : eval (.Call f [e] [] pos) env = (do callWith pos (← eval f env) [] (backTo pos (starEach [e] env)) (backToKw pos (keywordEach [] env))) := by rfl)
 (he : starEach [e] env = (false, eval e env) :: starEach [] env := by rfl) : Ev C (k + 2) env ρ (.Call f [e] [] pos) (.hd none cl_q5 "_headers" (hdRows [])) := by
 have F : IsDef C fn_q10 fd_q10 ["self", "headers"] (bodyOf st_q10) := isDef_of W (fun P => by kernel_rfl) (fun P => by kernel_rfl) (by kernel_rfl) rfl
 exact Ev.newH (bps := []) hf ha W.X (hd_cls C.w.params) (hd_keep _) (hd_ini _) (hd_iniT _) F (fun a b => Binds.over (T := iniDef) (items := #[Value.none]) rfl (W.X _ _ (tup_ini _)) rfl fun vs hv => by
  obtain ⟨v1, v2, rfl⟩ := len2 hv; exact ⟨_, rfl, rfl⟩) rfl (hd_init W) hc he
end
section
variable {C : Cx} {k : Nat} {env : Env} {ρ : Rho}
theorem flat_strs (xs : List Str) : (xs.map PV.str).all flatT = true := by
 rw [List.all_map, List.all_eq_true]
 intro x _
 rfl
theorem snap_hd {x : Str} {q : Option (Addr × Addr)} {xs : HdT} (hx : ρ x = some (.hd q cl_q5 "_headers" (hdRows xs))) : snapR ρ x = some (.fr (hdP xs)) := by
 unfold snapR
 rw [hx]
 rfl
theorem Ev.getAllH (W : Wd C) {x : Str} {px apos pos : Pos} {e : Expr} {q : Option (Addr × Addr)} {xs : HdT} {name : Str} {pl : Sem Bool} (hx : ρ x = some (.hd q cl_q5 "_headers" (hdRows xs))) (h : Ev C (k + 2) env (snapR ρ) e (.fr (.str name)))
 (hlow : ∀ x ∈ xs, lowOk x.1) (hn : lowOk name) (hok : okName (lowS name)) (hlen : xs.length ≤ 100000) (hd : (x == ("__debug__" : Str)) = false := by decide)
 (hc : eval (.Call (.Attribute (.Name x px) "get_all" apos) [e] [] pos) env = (do
  let ov ← eval (.Name x px) env
  standAt apos.atName
  let (f, first) ← holding [ov] (getMethod ov "get_all" pl)
  callWith pos f first (backTo pos (starEach [e] env)) []) := by rfl)
 (he : starEach [e] env = (false, eval e env) :: starEach [] env := by rfl) :
 Ev C (k + 2) env ρ (.Call (.Attribute (.Name x px) "get_all" apos) [e] [] pos) (.ol ((getAllOf xs name).map .str)) :=
 Ev.snap (Ev.meth (ns := ["_headers"]) (ps := [.lst (hdRows xs)]) (Ev.name (snap_hd hx) hd) (EvL.cons h EvL.nil he) W.X (hd_cls C.w.params) (methOk.of (hd_getall C.w.params)) (by decide) (getall_spec W xs name hlow hn hok hlen) hc he) (flat_strs _)
theorem Ev.getH (W : Wd C) {x : Str} {px apos pos : Pos} {e : Expr} {q : Option (Addr × Addr)} {xs : HdT} {name : Str} {pl : Sem Bool} (hx : ρ x = some (.hd q cl_q5 "_headers" (hdRows xs))) (h : Ev C (k + 2) env (snapR ρ) e (.fr (.str name)))
 (hlow : ∀ x ∈ xs, lowOk x.1) (hn : lowOk name) (hok : okName (lowS name)) (hd : (x == ("__debug__" : Str)) = false := by decide)
 (hc : eval (.Call (.Attribute (.Name x px) "get" apos) [e] [] pos) env = (do
  let ov ← eval (.Name x px) env
  standAt apos.atName
  let (f, first) ← holding [ov] (getMethod ov "get" pl)
  callWith pos f first (backTo pos (starEach [e] env)) []) := by rfl)
 (he : starEach [e] env = (false, eval e env) :: starEach [] env := by rfl) :
 Ev C (k + 2) env ρ (.Call (.Attribute (.Name x px) "get" apos) [e] [] pos) (.fr (match getOf xs name with | some v => .str v | none => .none)) :=
 Ev.snap (Ev.meth (ns := ["_headers"]) (ps := [.lst (hdRows xs)]) (Ev.name (snap_hd hx) hd) (EvL.cons h EvL.nil he) W.X (hd_cls C.w.params) (methOk.of (hd_get C.w.params)) (by decide) (get_spec1 W xs name hlow hn hok) hc he) (by cases getOf xs name <;> rfl)
end
section
variable {C : Cx} {k : Nat}
noncomputable abbrev RdT := Str × Int × Str
noncomputable def rdP (r : RdT) : PV := .tup [wsP r.1, .int r.2.1, .str r.2.2]
noncomputable def rdAt (rs : List RdT) (j : Nat) : RdT := rs.getD j ("", 0, "")
noncomputable def underOf (rs : List RdT) (i : Nat) : List Nat := (List.range i).filter fun j => lessOf (wsOf (rdAt rs j).1) (wsOf (rdAt rs i).1)
def fitsR (rs : List RdT) : Prop := ∀ r ∈ rs, (wsOf r.1).1.length ≤ 1001 ∧ (wsOf r.1).2.1 ≤ 1000
theorem rdAt_mem {rs : List RdT} {j : Nat} (h : j < rs.length) : rdAt rs j ∈ rs := by
 unfold rdAt
 rw [List.getD_eq_getElem?_getD, List.getElem?_eq_getElem h]
 exact List.getElem_mem h
theorem rows_at {rs : List RdT} {j : Nat} (h : j < rs.length) : (rs.map rdP)[j]? = some (rdP (rdAt rs j)) := by
 rw [List.getElem?_map, getD_lt (α := RdT) (d := ("", 0, "")) h]
 rfl
theorem under_rows (rs : List RdT) (i : Nat) : (((rangeP 0 i).filter fun p => match p with | .int j => lessOf (wsOf (rdAt rs j.toNat).1) (wsOf (rdAt rs i).1) | _ => false).map fun p => p) = intsP (underOf rs i) := by
 unfold underOf rangeP
 rw [List.map_id', List.filter_map]
 simp only [Int.zero_add]
 rfl
theorem capt_of {scope : Scope} {env : Env} {ρ : Rho} {x : Str} {p : PV} (h : ρ x = some (.fr p)) (h1 : scope.names.lookup x = some .free) (h2 : env.kindOf x = some .cell) : capt scope env ρ x = some (.fr p) := by
 unfold capt
 rw [if_pos ⟨h1, h2⟩, h]
theorem uo {ρ : Rho} {x y : Str} {l : Loc} {q : Loc} (hy : y ≠ x) (h : ρ y = some q) : upd ρ x l y = some q := by
 unfold upd
 simp [hy, h]
theorem play_under (W : Wd C) (rs : List RdT) (hrs : rs.length = 4) (hf : fitsR rs) (i : Nat) (hi : i < 4) (L : Addr) {ρ : Rho} (h1 : ρ "rows" = some (.fr (.lst (rs.map rdP)))) (h2 : ρ "i" = some (.fr (.int (i : Nat)))) :
 Ex C (k + 2) (callEnvC fd_q1 L fn_q1) ρ (nthS (forB (nthS (bodyOf st_q1) 1)) 0) .next (upd ρ "under" (.ol (intsP (underOf rs i)))) := by
 have X := W.X
 have O := ws_cls C.w.params
 have M := methOk.of (ws_less C.w.params)
 rw [← under_rows]
 refine Ex.assignComp (EvIt.range1 (b := (i : Nat)) (n := i) (by walk_at "ev") (Ev.name h2) ?_ ?_) (by rfl) Self.itr (fun Ca => ?_) ?_ (.inl rfl)
 · exact rangeSize_any _ _ _ (by omega)
 · exact range_small _ _ (by omega) (by omega) (by omega) (by omega)
 · refine CLoop.name (.inl rfl) (fun p => match p with | .int j => lessOf (wsOf (rdAt rs j.toNat).1) (wsOf (rdAt rs i).1) | _ => false) (fun p => p) _ _ _ Steps.name (fun _ => rfl) ?_ ?_
   · intro p hp
     simp only [rangeP, List.mem_map, List.mem_range] at hp
     obtain ⟨j, hj, rfl⟩ := hp
     have e0 : (0 : Int) + ((j : Nat) : Int) = ((j : Nat) : Int) := by omega
     rw [e0]
     have fj := hf _ (rdAt_mem (rs := rs) (j := j) (by omega))
     have fi := hf _ (rdAt_mem (rs := rs) (j := i) (by omega))
     have aj : (rs.map rdP)[((j : Nat) : Int).toNat]? = some (PV.tup [wsP (rdAt rs j).1, .int (rdAt rs j).2.1, .str (rdAt rs j).2.2]) := by rw [Int.toNat_natCast]; exact rows_at (by omega)
     have ai : (rs.map rdP)[((i : Nat) : Int).toNat]? = some (PV.tup [wsP (rdAt rs i).1, .int (rdAt rs i).2.1, .str (rdAt rs i).2.2]) := by rw [Int.toNat_natCast]; exact rows_at (by omega)
     refine TsF.one (Ts.val (Ev.meth (Ev.item (Ev.item (Ev.name (uo (by decide) (capt_of h1 rfl rfl))) (by walk_at "ev") (Pidx.lst (by omega) (by omega) aj)) Ev.intC (Pidx.tup (j := 0) (by decide) (by decide) rfl rfl)) (EvL.cons (Ev.item (Ev.item (Ev.name (uo (by decide) (capt_of h1 rfl rfl))) (Ev.name (uo (by decide) (capt_of h2 rfl rfl))) (Pidx.lst (by omega) (by omega) ai)) Ev.intC (Pidx.tup (j := 0) (by decide) (by decide) rfl rfl)) EvL.nil) X O M (by decide) (less_spec W _ _ (wsOf (rdAt rs j).1) (wsOf (rdAt rs i).1) fj.1 fi.1 fj.2 fi.2)) Pt.bool)
   · intro p hp hb
     exact Ev.name rfl
 · have h3 : ((rangeP 0 i).filter fun p => match p with | .int j => lessOf (wsOf (rdAt rs j.toNat).1) (wsOf (rdAt rs i).1) | _ => false).length ≤ (rangeP 0 i).length := List.length_filter_le _ _
   have h4 : (rangeP 0 i).length = i := by simp [rangeP]
   rw [List.length_map, sizeLine_eq]
   omega
end
section
variable {C : Cx} {k : Nat}
noncomputable def chainStep (rs : List RdT) (cs : List (List Nat)) (i : Nat) : List (List Nat) := cs ++ [[i] ++ (if (underOf rs i).isEmpty then [] else cs.getD ((underOf rs i).getLastD 0) [])]
noncomputable def chainsP (cs : List (List Nat)) : List PV := cs.map fun c => .lst (intsP c)
theorem last_at (u : List Nat) (h : u ≠ []) : (intsP u)[(((intsP u).length : Int) + (-1)).toNat]? = some (.int ((u.getLastD 0 : Nat) : Int)) := by
 have hp : 0 < u.length := List.length_pos_iff.mpr h
 rw [List.length_map, show ((u.length : Int) + (-1)).toNat = u.length - 1 by omega, List.getElem?_map, ← List.getLast?_eq_getElem?, List.getLastD_eq_getLast?]
 rw [List.getLast?_eq_some_getLast h]
 rfl
theorem play_chain (W : Wd C) (rs : List RdT) (cs : List (List Nat)) (i : Nat) (hi : i < 4) (hcs : cs.length = i) (hc : ∀ c ∈ cs, c.length ≤ 10) (L : Addr) {ρ : Rho} (h1 : ρ "under" = some (.fr (.lst (intsP (underOf rs i))))) (h2 : ρ "i" = some (.fr (.int (i : Nat)))) (h3 : ρ "chains" = some (.ol (chainsP cs))) :
 Ex C (k + 2) (callEnvC fd_q1 L fn_q1) ρ (nthS (forB (nthS (bodyOf st_q1) 1)) 1) .next (upd ρ "chains" (.ol (chainsP (chainStep rs cs i)))) := by
 have e : chainsP (chainStep rs cs i) = chainsP cs ++ [.lst (intsP ([i] ++ (if (underOf rs i).isEmpty then [] else cs.getD ((underOf rs i).getLastD 0) [])))] := by simp [chainsP, chainStep]
 rw [e]
 refine Ex.append h3 (fun b => ?_) ?_
 · have n1 : ∀ l, upd ρ "chains" l "under" = some (.fr (.lst (intsP (underOf rs i)))) := fun l => uo (by decide) h1
   have n2 : ∀ l, upd ρ "chains" l "i" = some (.fr (.int (i : Nat))) := fun l => uo (by decide) h2
   have hu : ∀ j ∈ underOf rs i, j < i := fun j hj => by
    unfold underOf at hj
    exact List.mem_range.mp (List.mem_filter.mp hj).1
   refine Ev.freeze (xs := intsP ([i] ++ (if (underOf rs i).isEmpty then [] else cs.getD ((underOf rs i).getLastD 0) []))) ?_
   have eI : ([i] ++ (if (underOf rs i).isEmpty then [] else cs.getD ((underOf rs i).getLastD 0) [])).map (fun (j : Nat) => PV.int (j : Nat)) = [PV.int (i : Nat)] ++ intsP (if (underOf rs i).isEmpty then [] else cs.getD ((underOf rs i).getLastD 0) []) := by simp [intsP]
   show Ev C _ _ _ _ (.ol (([i] ++ (if (underOf rs i).isEmpty then [] else cs.getD ((underOf rs i).getLastD 0) [])).map fun (j : Nat) => PV.int (j : Nat)))
   rw [eI]
   refine Ev.binop (Ev.freeze (Ev.list (EvL.cons (Ev.name (n2 _)) EvL.nil) (by rw [sizeLine_eq]; simp))) (Ev.ifExp (b := !(intsP (underOf rs i)).isEmpty) (Ts.compare1 (Ev.name (n1 _)) (Ev.freeze (Ev.list EvL.nil)) P2.neNil Pt.bool) (fun q => ?_) (fun q => ?_)) (P2.addL ?_)
   · have hne : (underOf rs i).isEmpty = false := by simpa [intsP] using q
     rw [if_neg (by simp [hne])]
     have hu0 : underOf rs i ≠ [] := fun q => by rw [q] at hne; cases hne
     have hlast : (underOf rs i).getLastD 0 < i := by
      rw [List.getLastD_eq_getLast?, List.getLast?_eq_some_getLast hu0]
      exact hu _ (List.getLast_mem hu0)
     have hg : (chainsP cs)[(((underOf rs i).getLastD 0 : Nat) : Int).toNat]? = some (.lst (intsP (cs.getD ((underOf rs i).getLastD 0) []))) := by
      rw [Int.toNat_natCast]
      unfold chainsP
      rw [List.getElem?_map, getD_lt (d := []) (by omega)]
      rfl
     have hp := List.length_pos_iff.mpr hu0
     exact Ev.itemOwn (i := (((underOf rs i).getLastD 0 : Nat) : Int)) uq (Ev.snap (Ev.item (Ev.name (show snapR _ "under" = some (.fr (.lst (intsP (underOf rs i)))) by unfold snapR; rw [n1]; rfl)) (Ev.neg Ev.intC) (Pidx.lstNeg (by decide) (by decide) (by rw [List.length_map]; omega) (last_at _ hu0))) rfl) (by omega) (by omega) hg
   · have hne : (underOf rs i).isEmpty = true := by simpa [intsP] using q
     rw [if_pos hne]
     exact Ev.freeze (Ev.list EvL.nil)
   · have hl : (intsP (if (underOf rs i).isEmpty then [] else cs.getD ((underOf rs i).getLastD 0) [])).length ≤ 10 := by
      rw [List.length_map]
      split
      · simp
      · rw [List.getD_eq_getElem?_getD]
        cases hg : cs[(underOf rs i).getLastD 0]? with
        | none => simp
        | some c => exact hc c (List.mem_of_getElem? hg)
     rw [sizeLine_eq]; simp only [List.length_singleton]; omega
 · simp [chainsP, sizeLine_eq]; omega
end
section
variable {C : Cx} {k : Nat}
noncomputable def chainsOf (rs : List RdT) : List (List Nat) := (List.range 4).foldl (chainStep rs) []
theorem chains_fold (rs : List RdT) (step : List (List Nat) → PV → List (List Nat)) (h : ∀ s (i : Nat), step s (.int (i : Nat)) = chainStep rs s i) : (rangeP 0 4).foldl step [] = chainsOf rs := by
 unfold chainsOf rangeP
 rw [List.foldl_map]
 congr 1
 funext s i
 rw [Int.zero_add]; exact h s i
theorem play_chains (W : Wd C) (rs : List RdT) (hrs : rs.length = 4) (hf : fitsR rs) (L : Addr) :
 Ex C (k + 2) (callEnvC fd_q1 L fn_q1) (ofL [("chains", .ol []), ("rows", .fr (.lst (rs.map rdP)))]) (nthS (bodyOf st_q1) 1) .next (ofL [("chains", .ol (chainsP (chainsOf rs))), ("rows", .fr (.lst (rs.map rdP)))]) := by
 let inv : List (List Nat) → Rho := fun cs => ofL [("chains", .ol (chainsP cs)), ("rows", .fr (.lst (rs.map rdP)))]
 let step : List (List Nat) → PV → List (List Nat) := fun cs p => match p with | .int i => chainStep rs cs i.toNat | _ => cs
 rw [← chains_fold rs step (fun s i => rfl)]
 refine Ex.forL (EvIt.range1 (b := 4) (n := 4) (by walk_at "ev") (by walk_at "ev") (by rfl) (by rfl)) (LoopL.foldI inv step (fun xs cs => cs.length + xs.length = 4 ∧ (∀ c ∈ cs, c.length ≤ cs.length) ∧ xs = (rangeP 0 4).drop cs.length) (rangeP 0 4) _ [] Steps.name ⟨rfl, by simp, rfl⟩ ?_)
 rintro cs p xs ⟨hl, hc, hx⟩
 simp only [List.length_cons] at hl
 have h4 : cs.length < 4 := by omega
 have hr : rangeP 0 4 = (List.range 4).map fun (j : Nat) => PV.int (j : Nat) := by
  unfold rangeP
  congr 1
  funext j
  rw [Int.zero_add]
 have hd : (rangeP 0 4).drop cs.length = .int (cs.length : Nat) :: (rangeP 0 4).drop (cs.length + 1) := by
  rw [hr]
  rw [List.drop_eq_getElem_cons (by simpa using h4)]
  simp
 rw [hd] at hx
 injection hx with hp hx
 subst hp
 have es : step cs (.int (cs.length : Nat)) = chainStep rs cs cs.length := rfl
 have el : (chainStep rs cs cs.length).length = cs.length + 1 := by simp [chainStep]
 have hgd : ∀ j, (cs.getD j []).length ≤ cs.length := fun j => by
  rw [List.getD_eq_getElem?_getD]
  cases hg : cs[j]? with
  | none => simp
  | some c => exact hc c (List.mem_of_getElem? hg)
 refine ⟨⟨by rw [es, el]; omega, fun c hm => ?_, by rw [es, el]; exact hx⟩, _, As.name (by walk_at "st"), ?_⟩
 · rw [es] at hm ⊢
   rw [el]
   unfold chainStep at hm
   rw [List.mem_append] at hm
   rcases hm with hm | hm
   · have := hc c hm; omega
   · rw [List.mem_singleton] at hm
     subst hm
     split
     · simp
     · have := hgd ((underOf rs cs.length).getLastD 0)
       simp only [List.length_append, List.length_singleton]; omega
 · refine Exs.cons (play_under W rs hrs hf cs.length h4 L rfl rfl) (Exs.freeze (x := "under") (l' := .fr (.lst (intsP (underOf rs cs.length)))) rfl rfl (Exs.cons (play_chain W rs cs cs.length h4 rfl (fun c h => by have := hc c h; omega) L rfl rfl rfl) ?_))
   rw [es]
   exact Exs.post (LeL.le ⟨rfl, rfl, trivial⟩) Exs.nil
end
section
noncomputable abbrev sOf (l : List Nat) : Str := ⟨l.toArray⟩
theorem sOf_add (a b : List Nat) : sOf a ++ sOf b = sOf (a ++ b) := by
 show Str.mk (a.toArray ++ b.toArray) = _
 simp [sOf]
theorem sOf_eta (x : Str) : sOf x.cps.toList = x := by cases x; simp [sOf]
theorem sOf_len (l : List Nat) : (sOf l).length = l.length := by simp [sOf, Str.length]
theorem sOf_cps (l : List Nat) : (sOf l).cps.toList = l := by simp [sOf]
theorem sOf_inj {a b : List Nat} (h : sOf a = sOf b) : a = b := by
 have := congrArg (fun x : Str => x.cps.toList) h
 simpa using this
theorem sOf_beq (a b : List Nat) : (sOf a == sOf b) = (a == b) := by
 rw [Bool.eq_iff_iff, beq_iff_eq, beq_iff_eq]
 exact ⟨sOf_inj, fun h => by rw [h]⟩
theorem ofString_sOf (s : String) (l : List Nat) (h : s.toList.map Char.toNat = l) : Str.ofString s = sOf l := by rw [Str.ofString_eq_toList, h]
theorem join_sOf : ∀ (ls : List (List Nat)), Txt.join "" (ls.map sOf) = sOf ls.flatten := by
 intro ls
 show Builtin.Str.glued "" _ = _
 rw [StrLaws.glued_eq_join]
 have e : ("" : Str) = sOf [] := ofString_sOf _ _ rfl
 rw [e]
 induction ls with
 | nil => rfl
 | cons x r ih =>
  cases r with
  | nil => simp [Str.join]
  | cons y r =>
   show sOf x ++ sOf [] ++ Str.join (sOf []) ((y :: r).map sOf) = _
   rw [ih, sOf_add, sOf_add]
   simp
theorem range_take {α : Type} : ∀ (m : Nat) (l : List α), (List.range m).filterMap (l[·]?) = l.take m
 | 0, l => by simp
 | m + 1, [] => by simp
 | m + 1, x :: r => by
  rw [List.range_succ_eq_map, List.filterMap_cons]
  simp only [List.getElem?_cons_zero, List.filterMap_map]
  have := range_take m r
  simp only [List.take_succ_cons]
  rw [← this]
  rfl
theorem idx_zero (n m : Nat) (h : m ≤ n) : sliceRange 0 (m : Nat) 1 = List.range m := by
 unfold sliceRange
 have e : ((if (0 : Int) < (m : Nat) then ((m : Nat) - 0 + 1 - 1 : Int) / 1 else 0)).toNat = m := by split <;> omega
 rw [if_pos (by decide)]
 dsimp only
 rw [e]
 conv => rhs; rw [← List.map_id (List.range m)]
 apply List.map_congr_left
 intro k hk
 simp
theorem clip_eq (n len : Nat) : max 0 (min (if ((n : Nat) : Int) < 0 then ((n : Nat) : Int) + (len : Nat) else ((n : Nat) : Int)) (len : Nat)) = ((min n len : Nat) : Int) := by
 rw [if_neg (Int.not_lt.mpr (Int.natCast_nonneg n))]
 have e : min ((n : Nat) : Int) (len : Nat) = ((min n len : Nat) : Int) := by omega
 rw [e]
 exact Int.max_eq_right (Int.natCast_nonneg _)
theorem slice_take (l : List Nat) (n : Nat) : Txt.slice (sOf l) none (some (n : Nat)) = sOf (l.take n) := by
 have hi : Builtin.Str.strSliceIndices none (some ((n : Nat) : Int)) 1 (sOf l).length = List.range (min n l.length) := by
  rw [sOf_len]
  unfold Builtin.Str.strSliceIndices
  simp only [show (1 : Int) > 0 by decide, if_true, clip_eq n l.length]
  exact idx_zero l.length _ (Nat.min_le_right _ _)
 unfold Txt.slice
 rw [hi]
 have hf : (List.range (min n l.length)).filterMap ((sOf l).cps[·]?) = l.take n := by
  have := range_take (min n l.length) l
  rw [show l.take (min n l.length) = l.take n by rw [← List.take_take]; simp] at this
  rw [← this]
  have ef : (fun (k : Nat) => (sOf l).cps[k]?) = fun k => l[k]? := by funext k; simp [sOf]
  rw [ef]
 rw [hf]
 split
 · rename_i h
   simp only [sOf_len] at h
   simp at h
   rw [List.take_of_length_le (by omega)]
 · rfl
theorem slice_drop (l : List Nat) (n : Nat) : Txt.slice (sOf l) (some (n : Nat)) none = sOf (l.drop n) := by
 have hi : Builtin.Str.strSliceIndices (some ((n : Nat) : Int)) none 1 (sOf l).length = (List.range (l.length - n)).map (n + ·) := by
  rw [sOf_len]
  unfold Builtin.Str.strSliceIndices
  simp only [show (1 : Int) > 0 by decide, if_true, clip_eq n l.length]
  unfold sliceRange
  simp only [show (1 : Int) > 0 by decide, if_true]
  have e2 : (if ((min n l.length : Nat) : Int) < (l.length : Nat) then (((l.length : Nat) : Int) - (min n l.length : Nat) + 1 - 1) / 1 else 0).toNat = l.length - n := by split <;> omega
  rw [e2]
  apply List.map_congr_left
  intro k hk
  rw [List.mem_range] at hk
  omega
 unfold Txt.slice
 rw [hi]
 have hf : ((List.range (l.length - n)).map (n + ·)).filterMap ((sOf l).cps[·]?) = l.drop n := by
  rw [List.filterMap_map]
  have := range_take (l.length - n) (l.drop n)
  rw [List.take_of_length_le (by simp)] at this
  conv => rhs; rw [← this]
  have ef : ((fun (k : Nat) => (sOf l).cps[k]?) ∘ fun x => n + x) = fun k => (l.drop n)[k]? := by funext k; simp [sOf]
  rw [ef]
 rw [hf]
 split
 · rename_i h
   simp only [sOf_len] at h
   simp at h
   have : n = 0 ∨ l = [] := by
    cases l with
    | nil => exact .inr rfl
    | cons x r => simp at h; left; omega
   rcases this with rfl | rfl <;> simp
 · rfl
noncomputable def visL : List Nat := [172, 174, 846, 848, 6149, 6151, 6154, 6158, 8202, 8206, 8287, 8289, 65023, 65040, 65278, 65280]
noncomputable def gch (c : Nat) : Bool := (decide (32 ≤ c) && decide (c < 127) && !(decide (65 ≤ c) && decide (c ≤ 90))) || visL.contains c
noncomputable def low1 (c : Nat) : Nat := if c = 80 then 112 else c
theorem low_small : ∀ c < 127, (32 ≤ c ∧ ¬ (65 ≤ c ∧ c ≤ 90)) → Unicode.lowerOf c = [c] := by decide +kernel
theorem low_vis : ∀ c ∈ visL, Unicode.lowerOf c = [c] ∧ 127 < c := by decide +kernel
theorem low_P : Unicode.lowerOf 80 = [112] := by decide +kernel
theorem low_gch {c : Nat} (h : gch c = true) : Unicode.lowerOf c = [c] ∧ c ≠ 80 ∧ 32 ≤ c ∧ c ≠ 127 ∧ c ≠ 0x3A3 := by
 unfold gch at h
 simp only [Bool.or_eq_true, Bool.and_eq_true, decide_eq_true_eq, Bool.not_eq_true', Bool.and_eq_false_iff, decide_eq_false_iff_not, List.contains_iff_mem] at h
 rcases h with ⟨⟨h1, h2⟩, h3⟩ | h
 · exact ⟨low_small c h2 ⟨h1, by omega⟩, by omega, by omega, by omega, by omega⟩
 · obtain ⟨a, b⟩ := low_vis c h
   refine ⟨a, by omega, by omega, by omega, ?_⟩
   rintro rfl
   revert h
   decide
theorem lowS_good {l : List Nat} (h : ∀ c ∈ l, gch c = true ∨ c = 80) : lowS (sOf l) = sOf (l.map low1) := by
 have key : ∀ c ∈ l, c ≠ 0x3A3 ∧ Unicode.lowerOf c = [low1 c] := fun c hc => by
  rcases h c hc with g | rfl
  · obtain ⟨a, b, -, -, d⟩ := low_gch g
    exact ⟨d, by rw [a]; unfold low1; rw [if_neg b]⟩
  · exact ⟨by decide, low_P⟩
 have hp : (placed (sOf l) fun i _ => Unicode.lowerAt (sOf l).cps i) = (l.map low1).toArray := by
  unfold placed
  apply Array.toList_inj.mp
  have e : ((sOf l).cps.mapIdx fun i c => (Unicode.lowerAt (sOf l).cps i).toArray) = (l.map fun c => #[low1 c]).toArray := by
   apply Array.ext
   · simp
   · intro i h1 h2
     simp at h1
     obtain ⟨k1, k2⟩ := key _ (List.getElem_mem h1)
     simp only [Array.getElem_mapIdx, List.getElem_toArray, List.getElem_map]
     unfold Unicode.lowerAt
     have : (sOf l).cps[i]? = some l[i] := by simp [sOf, h1]
     rw [this]
     simp only
     rw [if_neg (by simp [k1]), k2]
  rw [e]
  simp
  have : ∀ (l : List Nat), (l.map ((fun a => a.toList) ∘ fun c => #[low1 c])).flatten = l.map low1 := by
   intro l
   induction l with
   | nil => rfl
   | cons x r ih => simp [ih]
  rw [← this]
 unfold lowS
 rw [hp]
def goodL (l : List Nat) : Prop := ∀ c ∈ l, gch c = true ∨ c = 80
theorem goodL.name {l : List Nat} (h : goodL l) : okName (sOf l) := by
 intro c hc
 have hc : c ∈ l := by simpa [sOf] using hc
 rcases h c hc with g | rfl
 · obtain ⟨-, -, a, b, -⟩ := low_gch g; exact ⟨a, b⟩
 · decide
theorem goodL.val {l : List Nat} (h : goodL l) : okVal (sOf l) := fun c hc => .inl (h.name c hc)
theorem goodL.low {l : List Nat} (h : goodL l) : lowS (sOf l) = sOf (l.map low1) := lowS_good h
theorem goodL.lowOk {l : List Nat} (h : goodL l) (hl : l.length ≤ 100000) : lowOk (sOf l) := by
 unfold Mine.lowOk
 rw [h.low, sOf_len, List.length_map]; exact hl
theorem goodL.nameLow {l : List Nat} (h : goodL l) : okName (lowS (sOf l)) := by
 rw [h.low]
 intro c hc
 have hc : c ∈ l.map low1 := by simpa [sOf] using hc
 obtain ⟨d, hd, rfl⟩ := List.mem_map.mp hc
 unfold low1
 split
 · decide
 · exact h.name d (by simpa [sOf] using hd)
theorem goodL.app {a b : List Nat} (h : goodL a) (h2 : goodL b) : goodL (a ++ b) := fun c hc => (List.mem_append.mp hc).elim (h c) (h2 c)
end
section
noncomputable def isLet (c : Nat) : Bool := decide (97 ≤ c) && decide (c ≤ 122)
noncomputable def letIx (c : Nat) : Nat := min 3 ((c - 97) / 6)
structure WordsOk (wl : Nat → List Nat) : Prop where
 len : ∀ i < 4, (wl i).length ≤ 10
 good : ∀ i < 4, ∀ c ∈ wl i, gch c = true
 key : ∀ i < 4, ((wl i).filter isLet).map letIx = [i]
noncomputable def nmL (wl : Nat → List Nat) (s : List Nat) : List Nat := s.flatMap wl
noncomputable def hereOf (m : Nat) : List Nat := (List.range 4).filter fun i => m.testBit i
noncomputable def maskOf (s : List Nat) : Nat := (s.map (2 ^ ·)).sum
noncomputable def leftOf (ch : List (List Nat)) (s : List Nat) (i : Nat) : List Nat := s.filter fun k => !(ch.getD k []).contains i
noncomputable def winOf (par : Nat → Bool) (ch : List (List Nat)) (t : List Nat) (i : Nat) : Bool :=
 t.getD (maskOf (leftOf ch (hereOf t.length) i)) 0 == 0 || t.getD (maskOf (leftOf ch (hereOf t.length) i)) 0 == (if par i then 2 else 1)
noncomputable def wonOf (par : Nat → Bool) (ch : List (List Nat)) (t : List Nat) : List Bool := ((hereOf t.length).filter (winOf par ch t)).map fun i => !par i
noncomputable def valOf (par : Nat → Bool) (ch : List (List Nat)) (t : List Nat) : Nat :=
 if (wonOf par ch t).any id then (if (wonOf par ch t).any not then 3 else 1) else (if (wonOf par ch t).any not then 2 else 0)
noncomputable def tabOf (par : Nat → Bool) (ch : List (List Nat)) : Nat → List Nat
 | 0 => []
 | m + 1 => tabOf par ch m ++ [valOf par ch (tabOf par ch m)]
noncomputable def verdL : Nat → List Nat
 | 0 => [61, 61]
 | 1 => [62]
 | 2 => [60]
 | _ => [33, 61]
noncomputable abbrev preA : List Nat := [80, 112]
noncomputable abbrev preB : List Nat := [112, 80]
noncomputable def blockK (wl : Nat → List Nat) (j v : Nat) : HdT := (sOf (preA ++ nmL wl (hereOf j)), sOf (verdL v)) :: (if j = 0 then [(sOf preA, sOf [63])] else [])
noncomputable def knownL (wl : Nat → List Nat) (t : List Nat) : HdT := (List.range t.length).flatMap fun j => blockK wl j (t.getD j 0)
noncomputable def moveE (wl : Nat → List Nat) (par : Nat → Bool) (ch : List (List Nat)) (s : List Nat) (i : Nat) : List Nat := (if par i then 45 else 43) :: nmL wl (leftOf ch s i)
noncomputable def blockM (wl : Nat → List Nat) (par : Nat → Bool) (ch : List (List Nat)) (j : Nat) : HdT := (hereOf j).map fun i => (sOf (preA ++ nmL wl (hereOf j)), sOf (moveE wl par ch (hereOf j) i))
noncomputable def movesL (wl : Nat → List Nat) (par : Nat → Bool) (ch : List (List Nat)) (m : Nat) : HdT := (List.range m).flatMap fun j => blockM wl par ch j
theorem find_blocks {β : Type} (p : β → Bool) (f : Nat → List β) (j0 : Nat) (e0 : β) (rest : List β) (h0 : f j0 = e0 :: rest) (hp : p e0 = true) (hn : ∀ j < j0, ∀ e ∈ f j, p e = false) : ∀ m, j0 < m → ((List.range m).flatMap f).find? p = some e0
 | 0, h => by omega
 | m + 1, h => by
  rw [List.range_succ, List.flatMap_append, List.find?_append]
  by_cases hj : j0 < m
  · rw [find_blocks p f j0 e0 rest h0 hp hn m hj]; rfl
  · obtain rfl : j0 = m := by omega
    have : ((List.range j0).flatMap f).find? p = none := by
     rw [List.find?_eq_none]
     intro e he
     obtain ⟨j, hj, he⟩ := List.mem_flatMap.mp he
     rw [hn j (List.mem_range.mp hj) e he]; decide
    rw [this]
    simp [h0, hp]
theorem filter_blocks {β : Type} (p : β → Bool) (f : Nat → List β) (j0 : Nat) (hp : ∀ e ∈ f j0, p e = true) : ∀ m, (∀ j < m, j ≠ j0 → ∀ e ∈ f j, p e = false) → ((List.range m).flatMap f).filter p = if j0 < m then f j0 else []
 | 0, h => by simp
 | m + 1, h => by
  rw [List.range_succ, List.flatMap_append, List.filter_append, filter_blocks p f j0 hp m fun j hj hne e he => h j (by omega) hne e he]
  by_cases hj : j0 < m
  · rw [if_pos hj, if_pos (by omega)]
    have : ([m].flatMap f).filter p = [] := by
     rw [List.filter_eq_nil_iff]
     intro e he
     rw [h m (by omega) (by omega) e (by simpa using he)]; decide
    rw [this, List.append_nil]
  · rw [if_neg hj, List.nil_append]
    by_cases hm : j0 = m
    · subst hm
      rw [if_pos (by omega)]
      have : ([j0].flatMap f) = f j0 := by simp
      rw [this, List.filter_eq_self]
      exact hp
    · rw [if_neg (by omega)]
      rw [List.filter_eq_nil_iff]
      intro e he
      rw [h m (by omega) (by omega) e (by simpa using he)]; decide
theorem here_lt {m i : Nat} (h : i ∈ hereOf m) : i < 4 := List.mem_range.mp (List.mem_filter.mp h).1
theorem here_mask : ∀ m < 16, maskOf (hereOf m) = m := by decide +kernel
theorem here_inj {a b : Nat} (ha : a < 16) (hb : b < 16) (h : hereOf a = hereOf b) : a = b := by rw [← here_mask a ha, ← here_mask b hb, h]
theorem here_len (m : Nat) : (hereOf m).length ≤ 4 := Nat.le_trans (List.length_filter_le _ _) (by simp)
theorem part_mask (b : Nat → Bool) : hereOf (maskOf ((List.range 4).filter b)) = (List.range 4).filter b := by
 have e : (List.range 4).filter b = (List.range 4).filter fun i => [b 0, b 1, b 2, b 3].getD i false := by
  apply List.filter_congr
  intro i hi
  rw [List.mem_range] at hi
  match i, hi with
  | 0, _ | 1, _ | 2, _ | 3, _ => rfl
 rw [e]
 cases b 0 <;> cases b 1 <;> cases b 2 <;> cases b 3 <;> decide +kernel
theorem part_less (q : Nat → Bool) : ∀ m < 16, ∀ i < 4, m.testBit i = true → q i = false → maskOf ((hereOf m).filter q) < m := by
 have e : ∀ m, (hereOf m).filter q = (hereOf m).filter fun i => [q 0, q 1, q 2, q 3].getD i false := by
  intro m
  apply List.filter_congr
  intro i hi
  have hi := here_lt hi
  match i, hi with
  | 0, _ | 1, _ | 2, _ | 3, _ => rfl
 have e2 : ∀ i < 4, q i = [q 0, q 1, q 2, q 3].getD i false := by
  intro i hi
  match i, hi with
  | 0, _ | 1, _ | 2, _ | 3, _ => rfl
 have all : ∀ a b c d : Bool, ∀ m < 16, ∀ i < 4, m.testBit i = true → [a, b, c, d].getD i false = false → maskOf ((hereOf m).filter fun i => [a, b, c, d].getD i false) < m := by decide +kernel
 intro m hm i hi h1 h2
 rw [e]
 exact all _ _ _ _ m hm i hi h1 (by rw [← e2 i hi]; exact h2)
theorem left_here (ch : List (List Nat)) (m i : Nat) : hereOf (maskOf (leftOf ch (hereOf m) i)) = leftOf ch (hereOf m) i := by
 have : leftOf ch (hereOf m) i = (List.range 4).filter fun k => m.testBit k && !(ch.getD k []).contains i := by
  unfold leftOf hereOf
  rw [List.filter_filter]
  apply List.filter_congr
  intro k _
  rw [Bool.and_comm]
 rw [this]
 exact part_mask _
theorem left_less {ch : List (List Nat)} (hc : ∀ i < 4, i ∈ ch.getD i []) {m i : Nat} (hm : m < 16) (h : i ∈ hereOf m) : maskOf (leftOf ch (hereOf m) i) < m := by
 have h4 := here_lt h
 refine part_less (fun k => !(ch.getD k []).contains i) m hm i h4 (List.mem_filter.mp h).2 ?_
 simpa using hc i h4
theorem left_lt {ch : List (List Nat)} {m i k : Nat} (h : k ∈ leftOf ch (hereOf m) i) : k < 4 := here_lt (List.mem_filter.mp h).1
section
variable {wl : Nat → List Nat} (O : WordsOk wl)
include O
theorem WordsOk.dec : ∀ {s : List Nat}, (∀ i ∈ s, i < 4) → ((nmL wl s).filter isLet).map letIx = s
 | [], _ => rfl
 | i :: s, h => by
  have ih := WordsOk.dec (s := s) fun j hj => h j (List.mem_cons_of_mem _ hj)
  unfold nmL at ih ⊢
  rw [List.flatMap_cons, List.filter_append, List.map_append, O.key i (h i List.mem_cons_self), ih]
  rfl
theorem WordsOk.nm {s : List Nat} (h : ∀ i ∈ s, i < 4) : ∀ c ∈ nmL wl s, gch c = true := fun c hc => by
 obtain ⟨i, hi, hc⟩ := List.mem_flatMap.mp hc
 exact O.good i (h i hi) c hc
theorem WordsOk.nmLen : ∀ {s : List Nat}, (∀ i ∈ s, i < 4) → (nmL wl s).length ≤ 10 * s.length
 | [], _ => by simp [nmL]
 | i :: s, h => by
  have ih := WordsOk.nmLen (s := s) fun j hj => h j (List.mem_cons_of_mem _ hj)
  have := O.len i (h i List.mem_cons_self)
  unfold nmL at ih ⊢
  rw [List.flatMap_cons, List.length_append, List.length_cons]
  omega
theorem WordsOk.goodN {s : List Nat} (h : ∀ i ∈ s, i < 4) : goodL (nmL wl s) := fun c hc => .inl (O.nm h c hc)
theorem pre_good {p : List Nat} (hp : p = preA ∨ p = preB) : goodL p := by
 rcases hp with rfl | rfl <;> (intro c hc; simp at hc; rcases hc with rfl | rfl) <;> first | exact .inr rfl | exact .inl (by decide)
theorem WordsOk.goodP {s p : List Nat} (hp : p = preA ∨ p = preB) (h : ∀ i ∈ s, i < 4) : goodL (p ++ nmL wl s) := (pre_good O hp).app (O.goodN h)
theorem WordsOk.lowP {s p : List Nat} (hp : p = preA ∨ p = preB) (h : ∀ i ∈ s, i < 4) : lowS (sOf (p ++ nmL wl s)) = sOf ([112, 112] ++ nmL wl s) := by
 rw [(O.goodP hp h).low, List.map_append]
 have e1 : p.map low1 = [112, 112] := by rcases hp with rfl | rfl <;> decide
 have e2 : (nmL wl s).map low1 = nmL wl s := by
  conv => rhs; rw [← List.map_id (nmL wl s)]
  apply List.map_congr_left
  intro c hc
  unfold low1
  rw [if_neg (low_gch (O.nm h c hc)).2.1]
  rfl
 rw [e1, e2]
theorem WordsOk.keyEq {s u p p' : List Nat} (hp : p = preA ∨ p = preB) (hp' : p' = preA ∨ p' = preB) (h : ∀ i ∈ s, i < 4) (h' : ∀ i ∈ u, i < 4) :
 (lowS (sOf (p ++ nmL wl s)) == lowS (sOf (p' ++ nmL wl u))) = (s == u) := by
 rw [O.lowP hp h, O.lowP hp' h', sOf_beq, Bool.eq_iff_iff, beq_iff_eq, beq_iff_eq]
 refine ⟨fun e => ?_, fun e => by rw [e]⟩
 rw [List.append_cancel_left_eq] at e
 rw [← O.dec h, ← O.dec h', e]
theorem nm_nil : nmL wl [] = [] := rfl
theorem WordsOk.getK {t p : List Nat} (hp : p = preA ∨ p = preB) (ht : t.length ≤ 16) {j : Nat} (hj : j < t.length) : getOf (knownL wl t) (sOf (p ++ nmL wl (hereOf j))) = some (sOf (verdL (t.getD j 0))) := by
 unfold getOf knownL
 rw [find_blocks (fun x => lowS x.1 == lowS (sOf (p ++ nmL wl (hereOf j)))) _ j (sOf (preA ++ nmL wl (hereOf j)), sOf (verdL (t.getD j 0))) _ rfl ?_ ?_ _ hj]
 · rfl
 · show (lowS (sOf (preA ++ nmL wl (hereOf j))) == lowS (sOf (p ++ nmL wl (hereOf j)))) = true
   rw [O.keyEq (.inl rfl) hp (fun i => here_lt) (fun i => here_lt)]
   simp
 · intro j' hlt e he
   have hne : (hereOf j' == hereOf j) = false := by
    rw [beq_eq_false_iff_ne]
    intro q
    have := here_inj (by omega) (by omega) q
    omega
   unfold blockK at he
   rw [List.mem_cons] at he
   rcases he with rfl | he
   · show (lowS (sOf (preA ++ nmL wl (hereOf j'))) == lowS (sOf (p ++ nmL wl (hereOf j)))) = false
     rw [O.keyEq (.inl rfl) hp (fun i => here_lt) (fun i => here_lt), hne]
   · split at he
     · rename_i h0
       subst h0
       rw [List.mem_singleton] at he
       subst he
       show (lowS (sOf preA) == lowS (sOf (p ++ nmL wl (hereOf j)))) = false
       have := O.keyEq (s := []) (u := hereOf j) (p := preA) (.inl rfl) hp (fun i h => by cases h) (fun i => here_lt)
       rw [nm_nil O, List.append_nil] at this
       rw [this]
       exact hne
     · cases he
theorem WordsOk.getM {par : Nat → Bool} {ch : List (List Nat)} {m j : Nat} (hm : m ≤ 16) (hj : j < m) : getAllOf (movesL wl par ch m) (sOf (preB ++ nmL wl (hereOf j))) = (hereOf j).map fun i => sOf (moveE wl par ch (hereOf j) i) := by
 unfold getAllOf movesL
 rw [filter_blocks (fun x : Str × Str => lowS x.1 == lowS (sOf (preB ++ nmL wl (hereOf j)))) _ j ?_ m ?_, if_pos hj]
 · unfold blockM
   rw [List.map_map]
   rfl
 · intro e he
   obtain ⟨i, hi, rfl⟩ := List.mem_map.mp he
   show (lowS (sOf (preA ++ nmL wl (hereOf j))) == lowS (sOf (preB ++ nmL wl (hereOf j)))) = true
   rw [O.keyEq (.inl rfl) (.inr rfl) (fun i => here_lt) (fun i => here_lt)]
   simp
 · intro j' hlt hne e he
   obtain ⟨i, hi, rfl⟩ := List.mem_map.mp he
   show (lowS (sOf (preA ++ nmL wl (hereOf j'))) == lowS (sOf (preB ++ nmL wl (hereOf j)))) = false
   rw [O.keyEq (.inl rfl) (.inr rfl) (fun i => here_lt) (fun i => here_lt), beq_eq_false_iff_ne]
   intro q
   exact hne (here_inj (by omega) (by omega) q)
end
theorem known_snoc (wl : Nat → List Nat) (t : List Nat) (v : Nat) : knownL wl (t ++ [v]) = knownL wl t ++ blockK wl t.length v := by
 unfold knownL
 rw [List.length_append, List.length_singleton, List.range_succ, List.flatMap_append]
 congr 1
 · rw [List.flatMap_def, List.flatMap_def]
   congr 1
   apply List.map_congr_left
   intro j hj
   rw [List.mem_range] at hj
   rw [List.getD_eq_getElem?_getD, List.getElem?_append_left hj, ← List.getD_eq_getElem?_getD]
 · simp
theorem moves_snoc (wl : Nat → List Nat) (par : Nat → Bool) (ch : List (List Nat)) (m : Nat) : movesL wl par ch (m + 1) = movesL wl par ch m ++ blockM wl par ch m := by
 unfold movesL
 rw [List.range_succ, List.flatMap_append]
 simp
theorem moves_len (wl : Nat → List Nat) (par : Nat → Bool) (ch : List (List Nat)) : ∀ m, (movesL wl par ch m).length ≤ 4 * m
 | 0 => by simp [movesL]
 | m + 1 => by
  rw [moves_snoc, List.length_append]
  have := moves_len wl par ch m
  have h2 := here_len m
  unfold blockM
  rw [List.length_map]
  omega
theorem known_len (wl : Nat → List Nat) (t : List Nat) : (knownL wl t).length ≤ 2 * t.length := by
 have : ∀ m, ((List.range m).flatMap fun j => blockK wl j (t.getD j 0)).length ≤ 2 * m := by
  intro m
  induction m with
  | zero => simp
  | succ m ih =>
   rw [List.range_succ, List.flatMap_append, List.length_append]
   have : ([m].flatMap fun j => blockK wl j (t.getD j 0)).length ≤ 2 := by
    simp [blockK]; split <;> simp
   omega
 exact this _
section
variable {wl : Nat → List Nat} (O : WordsOk wl)
include O
theorem WordsOk.moveLow {par : Nat → Bool} {ch : List (List Nat)} {m : Nat} : ∀ x ∈ movesL wl par ch m, lowOk x.1 := fun x hx => by
 obtain ⟨j, hj, hx⟩ := List.mem_flatMap.mp hx
 obtain ⟨i, hi, rfl⟩ := List.mem_map.mp hx
 have := O.nmLen (s := hereOf j) fun i => here_lt
 have := here_len j
 exact (O.goodP (.inl rfl) fun i => here_lt).lowOk (by simp; omega)
theorem WordsOk.knownLow {t : List Nat} : ∀ x ∈ knownL wl t, lowOk x.1 := fun x hx => by
 obtain ⟨j, hj, hx⟩ := List.mem_flatMap.mp hx
 have := O.nmLen (s := hereOf j) fun i => here_lt
 have := here_len j
 unfold blockK at hx
 rw [List.mem_cons] at hx
 rcases hx with rfl | hx
 · exact (O.goodP (.inl rfl) fun i => here_lt).lowOk (by simp; omega)
 · split at hx
   · rw [List.mem_singleton] at hx
     subst hx
     exact (pre_good O (.inl rfl)).lowOk (by simp)
   · cases hx
end
end
section
variable {C : Cx} {k : Nat}
theorem LoopL.foldA {env : Env} {α σ : Type} {t : Expr} {body : List Stmt} (g : α → PV) (inv : σ → Rho) (step : σ → α → σ) (I : List α → σ → Prop) : ∀ (xs : List α) (L : Loc) (st : σ), Steps C t L (xs.map g) → I xs st →
 (∀ st x xs, I (x :: xs) st → I xs (step st x) ∧ ∃ ρ1, As C k env (inv st) t (g x) ρ1 ∧ Exs C k env ρ1 body .next (inv (step st x))) → LoopL C k env t body L (inv st) .next (inv (xs.foldl step st))
 | [], L, st, hs, _, _ => by cases hs with | nil h => exact .nil h
 | p :: xs, L, st, hs, hI, h => by
  cases hs with
  | cons q r =>
  obtain ⟨h0, ρ1, h1, h2⟩ := h st p xs hI
  exact .next q h1 h2 (LoopL.foldA g inv step I xs _ (step st p) r h0 h)
theorem foldl_snoc {α β : Type} (f : α → β) : ∀ (xs : List α) (a : List β), xs.foldl (fun acc x => acc ++ [f x]) a = a ++ xs.map f
 | [], a => by simp
 | x :: r, a => by rw [List.foldl_cons, foldl_snoc f r]; simp
noncomputable def wlOf (rs : List RdT) (i : Nat) : List Nat := (rdAt rs i).2.2.cps.toList
noncomputable def parOf (rs : List RdT) (i : Nat) : Bool := (rdAt rs i).2.1.fmod 2 == 1
noncomputable abbrev rowsLoc (rs : List RdT) : Loc := .fr (.lst (rs.map rdP))
noncomputable abbrev chLoc (rs : List RdT) : Loc := .fr (.lst (chainsP (chainsOf rs)))
noncomputable abbrev hdLoc (xs : HdT) : Loc := .hd none cl_q5 "_headers" (hdRows xs)
noncomputable abbrev loopB : List Stmt := forB (nthS (bodyOf st_q1) 4)
theorem bit_keep : ∀ m < 16, ∀ i < 4, (Builtin.bitAnd (((m : Nat) : Int).fdiv (2 ^ ((i : Nat) : Int).toNat)) 1 != 0) = m.testBit i := by decide +kernel
theorem range_ints (n : Nat) : rangeP 0 n = intsP (List.range n) := by
 unfold rangeP
 apply List.map_congr_left
 intro j _
 rw [Int.zero_add]
noncomputable def keepP (q : Nat → Bool) (p : PV) : Bool := match p with
 | .int j => q j.toNat
 | _ => false
noncomputable def mapP (f : Nat → PV) (p : PV) : PV := match p with
 | .int j => f j.toNat
 | _ => .none
theorem ints_filter (q : Nat → Bool) (s : List Nat) : (intsP s).filter (keepP q) = intsP (s.filter q) := by
 rw [intsP, List.filter_map]
 rfl
theorem ints_map (f : Nat → PV) (s : List Nat) : (intsP s).map (mapP f) = s.map f := by
 rw [intsP, List.map_map]
 rfl
theorem play_here (W : Wd C) (m : Nat) (hm : m < 16) (L : Addr) {ρ : Rho} (h1 : ρ "mask" = some (.fr (.int (m : Nat)))) :
 Ex C (k + 2) (callEnvC fd_q1 L fn_q1) ρ (nthS loopB 0) .next (upd ρ "here" (.ol (intsP (hereOf m)))) := by
 have e : intsP (hereOf m) = ((rangeP 0 4).filter (keepP fun j => m.testBit j)).map fun p => p := by rw [range_ints, ints_filter, List.map_id']; rfl
 rw [e]
 refine Ex.assignComp (EvIt.range1 (b := 4) (n := 4) (by walk_at "ev") (by walk_at "ev") (by rfl) (by rfl)) (by rfl) Self.itr (fun Ca => ?_) ?_ (by walk_at "st")
 · refine CLoop.name (.inl rfl) (keepP fun j => m.testBit j) (fun p => p) _ _ _ Steps.name (fun _ => rfl) ?_ ?_
   · intro p hp
     rw [range_ints] at hp
     obtain ⟨j, hj, rfl⟩ := List.mem_map.mp hp
     rw [List.mem_range] at hj
     show TsF _ _ _ _ _ (m.testBit j)
     rw [← bit_keep m hm j hj]
     exact TsF.one (Ts.val (Ev.binop (Ev.binop (Ev.name (uo (by decide) (capt_of h1 rfl rfl))) (Ev.name uq) (P2.rshI (Int.natCast_nonneg j))) Ev.intC P2.andI) Pt.int)
   · intro p hp hb
     exact Ev.name rfl
 · rw [← e, List.length_map, sizeLine_eq]
   have := here_len m
   omega
theorem row_at {rs : List RdT} (hrs : rs.length = 4) {j : Nat} (h : j < 4) : (rs.map rdP)[((j : Nat) : Int).toNat]? = some (PV.tup [wsP (rdAt rs j).1, .int (rdAt rs j).2.1, .str (rdAt rs j).2.2]) := by rw [Int.toNat_natCast]; exact rows_at (by omega)
theorem names_flat (rs : List RdT) (s : List Nat) : Txt.join "" (s.map fun i => (rdAt rs i).2.2) = sOf (nmL (wlOf rs) s) := by
 have : (s.map fun i => (rdAt rs i).2.2) = (s.map (wlOf rs)).map sOf := by
  rw [List.map_map]
  apply List.map_congr_left
  intro i _
  exact (sOf_eta _).symm
 rw [this, join_sOf]
 rfl
theorem word_len {rs : List RdT} (O : WordsOk (wlOf rs)) {i : Nat} (h : i < 4) : (rdAt rs i).2.2.length ≤ 10 := by
 have := O.len i h
 simpa [wlOf, Str.length] using this
theorem joinOk_of (texts : List Str) (h : ∀ x ∈ texts, x.length ≤ 1000) (hl : texts.length ≤ 1000) : JoinOk "" texts = true := by
 unfold JoinOk
 rw [Bool.not_eq_true']
 unfold Builtin.Str.tooLong
 rw [StrLaws.joinTotal]
 have h1 := StrLaws.sumLen_le texts h
 have h2 : ("" : Str).length = 0 := by decide +kernel
 have h3 : texts.length * 1000 ≤ 1000 * 1000 := Nat.mul_le_mul_right _ hl
 rw [h2, sizeLine_eq]
 exact decide_eq_false (by omega)
theorem names_ok {rs : List RdT} (O : WordsOk (wlOf rs)) {s : List Nat} (h : ∀ i ∈ s, i < 4) (hl : s.length ≤ 4) : JoinOk "" (s.map fun i => (rdAt rs i).2.2) = true := by
 refine joinOk_of _ (fun x hx => ?_) (by rw [List.length_map]; omega)
 obtain ⟨i, hi, rfl⟩ := List.mem_map.mp hx
 have := word_len O (h i hi)
 omega
theorem play_name (W : Wd C) {rs : List RdT} (hrs : rs.length = 4) (O : WordsOk (wlOf rs)) {s : List Nat} (hs : ∀ i ∈ s, i < 4) (hl : s.length ≤ 4) (L : Addr) {ρ : Rho} (h1 : ρ "rows" = some (rowsLoc rs)) (h2 : ρ "here" = some (.fr (.lst (intsP s)))) :
 Ex C (k + 2) (callEnvC fd_q1 L fn_q1) ρ (nthS loopB 1) .next (upd ρ "name" (.fr (.str (sOf (nmL (wlOf rs) s))))) := by
 rw [← names_flat]
 refine Ex.assign (Ev.join Ev.strC (Ev.freeze ?_) (names_ok O hs hl)) (by walk_at "st")
 have e : (s.map fun i => (rdAt rs i).2.2).map PV.str = ((intsP s).filter fun _ => true).map (mapP fun j => .str (rdAt rs j).2.2) := by
  rw [List.filter_eq_self.mpr (fun _ _ => rfl), ints_map, List.map_map]
  rfl
 rw [e]
 refine Ev.comp (EvIt.of (Ev.name h2) Iter.lst) (by rfl) Self.itr (fun Ca => ?_) ?_
 · refine CLoop.name (.inl rfl) (fun _ => true) (mapP fun j => .str (rdAt rs j).2.2) _ _ _ Steps.name (fun _ => rfl) (fun p hp => TsF.nil) ?_
   intro p hp _
   obtain ⟨j, hj, rfl⟩ := List.mem_map.mp hp
   exact Ev.item (Ev.item (Ev.name (uo (by decide) (capt_of h1 rfl rfl))) (Ev.name uq) (Pidx.lst (by omega) (by have := hs j hj; omega) (row_at hrs (hs j hj)))) Ev.intC (Pidx.tup (j := 2) (by decide) (by decide) rfl rfl)
 · rw [← e, List.length_map, List.length_map, sizeLine_eq]
   omega
end
section
variable {C : Cx} {k : Nat}
theorem any_ints (c : List Nat) (i : Nat) : (c.map fun (j : Nat) => (j : Int)).any (· == ((i : Nat) : Int)) = c.contains i := by
 rw [Bool.eq_iff_iff, List.any_map, List.any_eq_true, List.contains_iff_mem]
 constructor
 · rintro ⟨x, hx, h⟩
   have : ((x : Nat) : Int) = (i : Nat) := by simpa using h
   have : x = i := by omega
   exact this ▸ hx
 · intro h
   exact ⟨i, h, by simp⟩
theorem ints_ints (c : List Nat) : intsP c = (c.map fun (j : Nat) => (j : Int)).map .int := by simp [intsP]
theorem chain_at {rs : List RdT} {j : Nat} (hl : (chainsOf rs).length = 4) (h : j < 4) : (chainsP (chainsOf rs))[((j : Nat) : Int).toNat]? = some (.lst (intsP ((chainsOf rs).getD j []))) := by
 rw [Int.toNat_natCast]
 unfold chainsP
 rw [List.getElem?_map, getD_lt (d := []) (by omega)]
 rfl
noncomputable abbrev bodyI : List Stmt := forB (nthS loopB 2)
theorem play_left (W : Wd C) {rs : List RdT} (hrs : rs.length = 4) (hl : (chainsOf rs).length = 4) {s : List Nat} (hs : ∀ i ∈ s, i < 4) (hsl : s.length ≤ 4) {i : Nat} (L : Addr) {ρ : Rho} (h1 : ρ "rows" = some (rowsLoc rs)) (h2 : ρ "here" = some (.fr (.lst (intsP s)))) (h3 : ρ "chains" = some (chLoc rs)) (h4 : ρ "i" = some (.fr (.int (i : Nat)))) :
 Ex C (k + 2) (callEnvC fd_q1 L fn_q1) ρ (nthS bodyI 0) .next (upd ρ "left" (.ol (((leftOf (chainsOf rs) s i).map fun i => (rdAt rs i).2.2).map .str))) := by
 have e : ((leftOf (chainsOf rs) s i).map fun i => (rdAt rs i).2.2).map PV.str = ((intsP s).filter (keepP fun j => !((chainsOf rs).getD j []).contains i)).map (mapP fun j => .str (rdAt rs j).2.2) := by
  rw [ints_filter, ints_map, List.map_map]
  rfl
 rw [e]
 refine Ex.assignComp (EvIt.of (Ev.name h2) Iter.lst) (by rfl) Self.itr (fun Ca => ?_) ?_ (by walk_at "st")
 · refine CLoop.name (.inl rfl) (keepP fun j => !((chainsOf rs).getD j []).contains i) (mapP fun j => .str (rdAt rs j).2.2) _ _ _ Steps.name (fun _ => rfl) ?_ ?_
   · intro p hp
     obtain ⟨j, hj, rfl⟩ := List.mem_map.mp hp
     have hj4 := hs j hj
     show TsF _ _ _ _ _ (!((chainsOf rs).getD j []).contains i)
     rw [← any_ints]
     refine TsF.one (Ts.compare1 (Ev.name (uo (by decide) (capt_of h4 rfl rfl))) (Ev.item (Ev.name (uo (by decide) (capt_of h3 rfl rfl))) (Ev.name uq) (Pidx.lst (by omega) (by omega) (chain_at hl hj4))) ?_ Pt.bool)
     rw [ints_ints]
     exact P2.notInI
   · intro p hp _
     obtain ⟨j, hj, rfl⟩ := List.mem_map.mp hp
     have hj4 := hs j hj
     exact Ev.item (Ev.item (Ev.name (uo (by decide) (capt_of h1 rfl rfl))) (Ev.name uq) (Pidx.lst (by omega) (by omega) (row_at hrs hj4))) Ev.intC (Pidx.tup (j := 2) (by decide) (by decide) rfl rfl)
 · have := List.length_filter_le (fun k => !((chainsOf rs).getD k []).contains i) s
   rw [← e, List.length_map, List.length_map, sizeLine_eq]
   unfold leftOf
   omega
theorem pp_app (l : List Nat) : (("Pp" : Str) ++ sOf l) = sOf (preA ++ l) := by
 rw [ofString_sOf "Pp" preA rfl, sOf_add]
theorem pb_app (l : List Nat) : (("pP" : Str) ++ sOf l) = sOf (preB ++ l) := by
 rw [ofString_sOf "pP" preB rfl, sOf_add]
theorem sign_at (z : Int) : (seqIndex? (z.fmod 2) ("+-" : Str).length).bind (("+-" : Str).cps[·]?) = some (if (z.fmod 2 == 1) = true then 45 else 43) := by
 have h1 := Int.fmod_nonneg_of_pos z (show (0 : Int) < 2 by decide)
 have h2 := Int.fmod_lt_of_pos z (show (0 : Int) < 2 by decide)
 have e : z.fmod 2 = 0 ∨ z.fmod 2 = 1 := by omega
 rcases e with e | e <;> rw [e] <;> decide +kernel
theorem left_lt4 {ch : List (List Nat)} {s : List Nat} (hs : ∀ i ∈ s, i < 4) {i : Nat} : ∀ j ∈ leftOf ch s i, j < 4 := fun j hj => hs j (List.mem_filter.mp hj).1
theorem left_len {ch : List (List Nat)} {s : List Nat} (hs : s.length ≤ 4) {i : Nat} : (leftOf ch s i).length ≤ 4 := Nat.le_trans (List.length_filter_le _ _) hs
theorem move_good {rs : List RdT} (O : WordsOk (wlOf rs)) {ch : List (List Nat)} {s : List Nat} (hs : ∀ i ∈ s, i < 4) (par : Nat → Bool) (i : Nat) : goodL (moveE (wlOf rs) par ch s i) := by
 intro c hc
 unfold moveE at hc
 rw [List.mem_cons] at hc
 rcases hc with rfl | hc
 · left; split <;> decide
 · exact O.goodN (left_lt4 hs) c hc
theorem move_len {rs : List RdT} (O : WordsOk (wlOf rs)) {ch : List (List Nat)} {s : List Nat} (hs : ∀ i ∈ s, i < 4) (hsl : s.length ≤ 4) (par : Nat → Bool) (i : Nat) : (moveE (wlOf rs) par ch s i).length ≤ 41 := by
 have h1 := O.nmLen (left_lt4 (ch := ch) (i := i) hs)
 have h2 := left_len (ch := ch) (i := i) hsl
 unfold moveE
 rw [List.length_cons]
 omega
noncomputable abbrev baseI (rs : List RdT) (s : List Nat) (m : Nat) (kn : HdT) : List (Str × Loc) := [("rows", rowsLoc rs), ("chains", chLoc rs), ("mask", .fr (.int (m : Nat))), ("here", .fr (.lst (intsP s))), ("name", .fr (.str (sOf (nmL (wlOf rs) s)))), ("known", hdLoc kn)]
theorem play_moves (W : Wd C) {rs : List RdT} (hrs : rs.length = 4) (O : WordsOk (wlOf rs)) (hl : (chainsOf rs).length = 4) {s : List Nat} (hs : ∀ i ∈ s, i < 4) (hsl : s.length ≤ 4) (m : Nat) (kn mv : HdT) (hmv : mv.length ≤ 1000) (L : Addr) :
 Ex C (k + 2) (callEnvC fd_q1 L fn_q1) (ofL (("moves", hdLoc mv) :: baseI rs s m kn)) (nthS loopB 2) .next (ofL (("moves", hdLoc (mv ++ s.map fun i => (sOf (preA ++ nmL (wlOf rs) s), sOf (moveE (wlOf rs) (parOf rs) (chainsOf rs) s i)))) :: baseI rs s m kn)) := by
 rw [← foldl_snoc]
 refine Ex.forL (EvIt.of (Ev.name rfl) Iter.lst) (LoopL.foldA (fun (i : Nat) => PV.int (i : Nat)) (fun mv => ofL (("moves", hdLoc mv) :: baseI rs s m kn)) _ (fun xs mv => (∀ i ∈ xs, i < 4) ∧ mv.length + xs.length ≤ 1004) s _ mv Steps.name ⟨hs, by omega⟩ ?_)
 rintro mv i xs ⟨hx, hln⟩
 simp only [List.length_cons] at hln
 have hi4 := hx i List.mem_cons_self
 refine ⟨⟨fun j hj => hx j (List.mem_cons_of_mem _ hj), by simp; omega⟩, _, As.name (by walk_at "st"), ?_⟩
 refine Exs.cons (play_left W hrs hl hs hsl L rfl rfl rfl rfl) (Exs.freeze (x := "left") (l' := .fr (.lst (((leftOf (chainsOf rs) s i).map fun i => (rdAt rs i).2.2).map .str))) rfl rfl ?_)
 have hn1 := O.nmLen hs
 have hn2 := O.nmLen (left_lt4 (ch := chainsOf rs) (i := i) hs)
 have hn3 := left_len (ch := chainsOf rs) (i := i) hsl
 have hg := O.goodP (.inl rfl) hs
 have hm := move_good O (ch := chainsOf rs) hs (parOf rs) i
 have hml := move_len O (ch := chainsOf rs) hs hsl (parOf rs) i
 refine Exs.cons (Ex.addH W (xs := mv) (n := sOf (preA ++ nmL (wlOf rs) s)) (v := sOf (moveE (wlOf rs) (parOf rs) (chainsOf rs) s i)) (q := none) rfl (fun a b => ?_) (fun a b => ?_) hg.name hm.val (by rw [sOf_len, List.length_append]; simp; omega) (by rw [sOf_len]; omega) (by omega)) ?_
 · rw [← pp_app]
   exact Ev.binop Ev.strC (Ev.name rfl) (P2.addS (by rw [show ("Pp" : Str).length = 2 by decide +kernel, sOf_len, sizeLine_eq]; omega))
 · have e : sOf (moveE (wlOf rs) (parOf rs) (chainsOf rs) s i) = ⟨#[if ((rdAt rs i).2.1.fmod 2 == 1) = true then 45 else 43]⟩ ++ Txt.join "" ((leftOf (chainsOf rs) s i).map fun i => (rdAt rs i).2.2) := by
    rw [names_flat, show (⟨#[if ((rdAt rs i).2.1.fmod 2 == 1) = true then 45 else 43]⟩ : Str) = sOf [if ((rdAt rs i).2.1.fmod 2 == 1) = true then 45 else 43] from rfl, sOf_add]
    rfl
   rw [e]
   refine Ev.binop (Ev.item Ev.strC (Ev.binop (Ev.item (Ev.item (Ev.name rfl) (Ev.name rfl) (Pidx.lst (by omega) (by omega) (row_at hrs hi4))) Ev.intC (Pidx.tup (j := 1) (by decide) (by decide) rfl rfl)) Ev.intC (P2.modI (by decide))) (Pidx.str ?_ ?_ (sign_at _))) (Ev.join Ev.strC (Ev.name rfl) (names_ok O (left_lt4 hs) hn3)) (P2.addS ?_)
   · have h1 := Int.fmod_nonneg_of_pos (rdAt rs i).2.1 (show (0 : Int) < 2 by decide)
     omega
   · have h2 := Int.fmod_lt_of_pos (rdAt rs i).2.1 (show (0 : Int) < 2 by decide)
     omega
   · rw [names_flat, sOf_len (nmL _ _), sizeLine_eq]
     show 1 + _ ≤ _
     omega
 · exact Exs.post (LeL.le ⟨rfl, rfl, rfl, rfl, rfl, rfl, rfl, trivial⟩) Exs.nil
end
section
variable {C : Cx} {k : Nat}
noncomputable def forI : Stmt → Expr
 | .For _ i _ _ _ => i
 | _ => default
noncomputable def sgL (b : Bool) : Nat := if b then 43 else 45
noncomputable abbrev wonS (l : List Bool) : Str := sOf (l.map sgL)
theorem won_plus : ∀ l : List Bool, l.length ≤ 4 → Txt.contains (wonS l) "+" = l.any id := by
 have h : ∀ a b c d : Bool, Txt.contains (wonS []) "+" = ([] : List Bool).any id ∧ Txt.contains (wonS [a]) "+" = [a].any id ∧ Txt.contains (wonS [a, b]) "+" = [a, b].any id ∧ Txt.contains (wonS [a, b, c]) "+" = [a, b, c].any id ∧ Txt.contains (wonS [a, b, c, d]) "+" = [a, b, c, d].any id := by decide +kernel
 intro l hl
 match l, hl with
 | [], _ => exact (h true true true true).1
 | [a], _ => exact (h a true true true).2.1
 | [a, b], _ => exact (h a b true true).2.2.1
 | [a, b, c], _ => exact (h a b c true).2.2.2.1
 | [a, b, c, d], _ => exact (h a b c d).2.2.2.2
 | _ :: _ :: _ :: _ :: _ :: _, h => exact absurd h (by simp)
theorem won_minus : ∀ l : List Bool, l.length ≤ 4 → Txt.contains (wonS l) "-" = l.any not := by
 have h : ∀ a b c d : Bool, Txt.contains (wonS []) "-" = ([] : List Bool).any not ∧ Txt.contains (wonS [a]) "-" = [a].any not ∧ Txt.contains (wonS [a, b]) "-" = [a, b].any not ∧ Txt.contains (wonS [a, b, c]) "-" = [a, b, c].any not ∧ Txt.contains (wonS [a, b, c, d]) "-" = [a, b, c, d].any not := by decide +kernel
 intro l hl
 match l, hl with
 | [], _ => exact (h true true true true).1
 | [a], _ => exact (h a true true true).2.1
 | [a, b], _ => exact (h a b true true).2.2.1
 | [a, b, c], _ => exact (h a b c true).2.2.2.1
 | [a, b, c, d], _ => exact (h a b c d).2.2.2.2
 | _ :: _ :: _ :: _ :: _ :: _, h => exact absurd h (by simp)
theorem verd_test (v : Nat) (p : Bool) : ((sOf (verdL v) == ("==" : Str)) || ((sOf (verdL v) == (if p then ("<" : Str) else (">" : Str))) || false)) = (v == 0 || v == (if p then 2 else 1)) := by
 rw [ofString_sOf "==" [61, 61] rfl, ofString_sOf "<" [60] rfl, ofString_sOf ">" [62] rfl]
 match v with
 | 0 => cases p <;> decide +kernel
 | 1 => cases p <;> decide +kernel
 | 2 => cases p <;> decide +kernel
 | n + 3 =>
  have e : verdL (n + 3) = [33, 61] := rfl
  rw [e]
  have e2 : ((n + 3 == 0) || (n + 3 == if p then 2 else 1)) = false := by cases p <;> simp
  rw [e2]
  cases p <;> decide +kernel
noncomputable def wonStep (par : Nat → Bool) (ch : List (List Nat)) (t : List Nat) (l : List Bool) (i : Nat) : List Bool := if winOf par ch t i then l ++ [!par i] else l
theorem won_fold (par : Nat → Bool) (ch : List (List Nat)) (t : List Nat) : ∀ (s : List Nat) (l : List Bool), s.foldl (wonStep par ch t) l = l ++ ((s.filter (winOf par ch t)).map fun i => !par i)
 | [], l => by simp
 | x :: r, l => by
  rw [List.foldl_cons, won_fold par ch t r]
  unfold wonStep
  cases h : winOf par ch t x <;> simp [h]
noncomputable abbrev baseW (rs : List RdT) (m : Nat) (mv : HdT) (t : List Nat) : List (Str × Loc) := [("rows", rowsLoc rs), ("chains", chLoc rs), ("mask", .fr (.int (m : Nat))), ("name", .fr (.str (sOf (nmL (wlOf rs) (hereOf m))))), ("moves", hdLoc mv), ("known", hdLoc (knownL (wlOf rs) t))]
theorem seq0 {n : Nat} : seqIndex? 0 (n + 1) = some 0 := by
 unfold seqIndex?
 simp
theorem play_won (W : Wd C) {rs : List RdT} (hrs : rs.length = 4) (O : WordsOk (wlOf rs)) (hch : ∀ i < 4, i ∈ (chainsOf rs).getD i []) (t : List Nat) (ht : t.length < 16) (L : Addr) :
 Ex C (k + 2) (callEnvC fd_q1 L fn_q1) (ofL (("won", .fr (.str (wonS []))) :: baseW rs t.length (movesL (wlOf rs) (parOf rs) (chainsOf rs) (t.length + 1)) t)) (nthS loopB 4) .next (ofL (("won", .fr (.str (wonS (wonOf (parOf rs) (chainsOf rs) t)))) :: baseW rs t.length (movesL (wlOf rs) (parOf rs) (chainsOf rs) (t.length + 1)) t)) := by
 have hwo : wonOf (parOf rs) (chainsOf rs) t = (hereOf t.length).foldl (wonStep (parOf rs) (chainsOf rs) t) [] := by rw [won_fold]; rfl
 rw [hwo]
 have hgo := O.goodP (p := preB) (.inr rfl) (s := hereOf t.length) fun i => here_lt
 have hn1 := O.nmLen (s := hereOf t.length) fun i => here_lt
 have hn0 := here_len t.length
 have hml := moves_len (wlOf rs) (parOf rs) (chainsOf rs) (t.length + 1)
 have hit : EvIt C (k + 2) (callEnvC fd_q1 L fn_q1) (ofL (("won", .fr (.str (wonS []))) :: baseW rs t.length (movesL (wlOf rs) (parOf rs) (chainsOf rs) (t.length + 1)) t)) (forI (nthS loopB 4)) (.itr ((hereOf t.length).map fun i => PV.str (sOf (moveE (wlOf rs) (parOf rs) (chainsOf rs) (hereOf t.length) i)))) := by
  refine EvIt.of (p := .lst ((hereOf t.length).map fun i => PV.str (sOf (moveE (wlOf rs) (parOf rs) (chainsOf rs) (hereOf t.length) i)))) (Ev.freeze ?_) Iter.lst
  have e : ((hereOf t.length).map fun i => PV.str (sOf (moveE (wlOf rs) (parOf rs) (chainsOf rs) (hereOf t.length) i))) = (getAllOf (movesL (wlOf rs) (parOf rs) (chainsOf rs) (t.length + 1)) (sOf (preB ++ nmL (wlOf rs) (hereOf t.length)))).map .str := by
   rw [O.getM (by omega) (by omega), List.map_map]
   rfl
  rw [e]
  refine Ev.getAllH W (q := none) rfl ?_ O.moveLow (hgo.lowOk (by rw [List.length_append]; simp; omega)) hgo.nameLow (by omega)
  rw [← pb_app]
  exact Ev.binop Ev.strC (Ev.name rfl) (P2.addS (by rw [show ("pP" : Str).length = 2 by decide +kernel, sOf_len, sizeLine_eq]; omega))
 refine Ex.forL hit (LoopL.foldA (fun (i : Nat) => PV.str (sOf (moveE (wlOf rs) (parOf rs) (chainsOf rs) (hereOf t.length) i))) (fun l => ofL (("won", .fr (.str (wonS l))) :: baseW rs t.length (movesL (wlOf rs) (parOf rs) (chainsOf rs) (t.length + 1)) t)) _ (fun xs l => (∀ i ∈ xs, i ∈ hereOf t.length) ∧ l.length + xs.length ≤ 4) (hereOf t.length) _ [] Steps.name ⟨fun i h => h, by simpa using here_len _⟩ ?_)
 rintro l i xs ⟨hx, hln⟩
 simp only [List.length_cons] at hln
 have hi := hx i List.mem_cons_self
 have hi4 := here_lt hi
 have hstl : (wonStep (parOf rs) (chainsOf rs) t l i).length ≤ l.length + 1 := by unfold wonStep; split <;> simp
 refine ⟨⟨fun j hj => hx j (List.mem_cons_of_mem _ hj), by omega⟩, _, As.name (by walk_at "st"), ?_⟩
 let lf := leftOf (chainsOf rs) (hereOf t.length) i
 let v := t.getD (maskOf lf) 0
 let c : Nat := if parOf rs i then 45 else 43
 have hlf4 : ∀ j ∈ lf, j < 4 := fun j hj => left_lt hj
 have hlfl : lf.length ≤ 4 := left_len hn0
 have hn2 := O.nmLen hlf4
 have hg2 := O.goodP (p := preB) (.inr rfl) hlf4
 have hlt : maskOf lf < t.length := left_less hch (by omega) hi
 have hlh : hereOf (maskOf lf) = lf := left_here _ _ _
 have hget : getOf (knownL (wlOf rs) t) (sOf (preB ++ nmL (wlOf rs) lf)) = some (sOf (verdL v)) := by
  have := O.getK (p := preB) (.inr rfl) (t := t) (by omega) hlt
  rw [hlh] at this
  exact this
 have hmv : moveE (wlOf rs) (parOf rs) (chainsOf rs) (hereOf t.length) i = c :: nmL (wlOf rs) lf := rfl
 rw [hmv]
 refine Exs.cons (ρ' := ofL (("after", .fr (.str (sOf (verdL v)))) :: ("move", .fr (.str (sOf (c :: nmL (wlOf rs) lf)))) :: ("won", .fr (.str (wonS l))) :: baseW rs t.length (movesL (wlOf rs) (parOf rs) (chainsOf rs) (t.length + 1)) t)) (Ex.post (LeL.le ⟨rfl, rfl, rfl, rfl, rfl, rfl, rfl, rfl, rfl, trivial⟩) (Ex.assign (l := .fr (.str (sOf (verdL v)))) ?_ (by walk_at "st"))) ?_
 · have e : Loc.fr (.str (sOf (verdL v))) = .fr (match getOf (knownL (wlOf rs) t) (sOf (preB ++ nmL (wlOf rs) lf)) with | some v => .str v | none => .none) := by rw [hget]
   rw [e]
   refine Ev.getH W (q := none) rfl ?_ O.knownLow (hg2.lowOk (by rw [List.length_append]; simp; omega)) hg2.nameLow
   rw [← pb_app]
   have es : sOf (nmL (wlOf rs) lf) = Txt.slice (sOf (c :: nmL (wlOf rs) lf)) (some 1) none := (slice_drop (c :: nmL (wlOf rs) lf) 1).symm
   have hl1 : (sOf (nmL (wlOf rs) lf)).length ≤ 40 := by rw [sOf_len]; omega
   rw [es] at hl1 ⊢
   exact Ev.binop Ev.strC (Ev.sliceS (Ev.name rfl) (.some Ev.intC) .none (by rw [sOf_len, List.length_cons, sizeLine_eq]; omega)) (P2.addS (by rw [show ("pP" : Str).length = 2 by decide +kernel, sizeLine_eq]; omega))
 have hc0 : (seqIndex? 0 (sOf (c :: nmL (wlOf rs) lf)).length).bind ((sOf (c :: nmL (wlOf rs) lf)).cps[·]?) = some c := by
  rw [sOf_len, List.length_cons, seq0]
  simp [sOf]
 have hw : winOf (parOf rs) (chainsOf rs) t i = (v == 0 || v == (if parOf rs i then 2 else 1)) := rfl
 refine Exs.cons (ρ' := ofL (("won", .fr (.str (wonS (wonStep (parOf rs) (chainsOf rs) t l i)))) :: baseW rs t.length (movesL (wlOf rs) (parOf rs) (chainsOf rs) (t.length + 1)) t)) (Ex.ite (b := winOf (parOf rs) (chainsOf rs) t i) (o := .next) ?_ (fun h => ?_) (fun h => ?_)) (Exs.post .refl Exs.nil)
 · rw [hw, ← verd_test]
   refine Ts.boolOp (TsL.or (Ts.compare1 (Ev.name rfl) Ev.strC P2.eqS Pt.bool) fun _ => TsL.or (Ts.compare1 (Ev.name rfl) (Ev.ifExp (b := !parOf rs i) (Ts.compare1 (Ev.item (Ev.name rfl) Ev.intC (Pidx.str (by decide) (by decide) hc0)) Ev.strC P2.eqS ?_) (fun h => ?_) (fun h => ?_)) P2.eqS Pt.bool) fun _ => TsL.orNil)
   · have : ((⟨#[c]⟩ : Str) == ("+" : Str)) = !parOf rs i := by
      show ((⟨#[if parOf rs i then 45 else 43]⟩ : Str) == ("+" : Str)) = !parOf rs i
      cases parOf rs i <;> decide +kernel
     rw [← this]
     exact Pt.bool
   · rw [show parOf rs i = false by simpa using h]
     exact Ev.strC
   · rw [show parOf rs i = true by simpa using h]
     exact Ev.strC
 · have e : wonS (wonStep (parOf rs) (chainsOf rs) t l i) = wonS l ++ ⟨#[c]⟩ := by
    unfold wonStep
    rw [if_pos h, show (⟨#[c]⟩ : Str) = sOf [c] from rfl, sOf_add]
    show sOf ((l ++ [!parOf rs i]).map sgL) = _
    rw [List.map_append]
    show sOf (l.map sgL ++ [sgL (!parOf rs i)]) = sOf (l.map sgL ++ [if parOf rs i then 45 else 43])
    cases parOf rs i <;> rfl
   rw [e]
   refine Exs.cons (Ex.assign (Ev.binop (Ev.name rfl) (Ev.item (Ev.name rfl) Ev.intC (Pidx.str (by decide) (by decide) hc0)) (P2.addS ?_)) (by walk_at "st")) (Exs.post (LeL.le ⟨rfl, rfl, rfl, rfl, rfl, rfl, rfl, trivial⟩) Exs.nil)
   rw [sOf_len, List.length_map, sizeLine_eq]
   show _ + 1 ≤ _
   omega
 · have e : wonStep (parOf rs) (chainsOf rs) t l i = l := by unfold wonStep; rw [if_neg (by rw [h]; decide)]
   rw [e]
   exact Exs.post (LeL.le ⟨rfl, rfl, rfl, rfl, rfl, rfl, rfl, trivial⟩) Exs.nil
end
section
variable {C : Cx} {k : Nat}
theorem won_len (par : Nat → Bool) (ch : List (List Nat)) (t : List Nat) : (wonOf par ch t).length ≤ 4 := by
 unfold wonOf
 rw [List.length_map]
 exact Nat.le_trans (List.length_filter_le _ _) (here_len _)
theorem verd_good (v : Nat) : goodL (verdL v) := by
 intro c hc
 left
 match v with
 | 0 | 1 | 2 => revert c; decide
 | n + 3 =>
  have e : verdL (n + 3) = [33, 61] := rfl
  rw [e] at hc
  revert c; decide
theorem verd_len (v : Nat) : (verdL v).length ≤ 2 := by
 match v with
 | 0 | 1 | 2 => decide
 | n + 3 => exact Nat.le_refl 2
theorem play_file (W : Wd C) {rs : List RdT} (O : WordsOk (wlOf rs)) (mv : HdT) (t : List Nat) (ht : t.length < 16) (L : Addr) :
 Ex C (k + 2) (callEnvC fd_q1 L fn_q1) (ofL (("won", .fr (.str (wonS (wonOf (parOf rs) (chainsOf rs) t)))) :: baseW rs t.length mv t)) (nthS loopB 5) .next
  (ofL [("rows", rowsLoc rs), ("chains", chLoc rs), ("mask", .fr (.int (t.length : Nat))), ("moves", hdLoc mv), ("known", hdLoc (knownL (wlOf rs) t ++ [(sOf (preA ++ nmL (wlOf rs) (hereOf t.length)), sOf (verdL (valOf (parOf rs) (chainsOf rs) t)))]))]) := by
 have hw := won_len (parOf rs) (chainsOf rs) t
 have hg := O.goodP (p := preA) (.inl rfl) (s := hereOf t.length) fun i => here_lt
 have hn1 := O.nmLen (s := hereOf t.length) fun i => here_lt
 have hn0 := here_len t.length
 have hkl := known_len (wlOf rs) t
 have hvg := verd_good (valOf (parOf rs) (chainsOf rs) t)
 have hvl := verd_len (valOf (parOf rs) (chainsOf rs) t)
 have name : ∀ a b, Ev C (k + 2) (callEnvC fd_q1 L fn_q1) (upd (ofL (("won", .fr (.str (wonS (wonOf (parOf rs) (chainsOf rs) t)))) :: baseW rs t.length mv t)) "known" (.hd (some (a, b)) cl_q5 "_headers" (hdRows (knownL (wlOf rs) t)))) (.BinOp (.Constant (.str "Pp") 0 default) .Add (.Name "name" default) default) (.fr (.str (sOf (preA ++ nmL (wlOf rs) (hereOf t.length))))) → True := fun _ _ _ => trivial
 refine Ex.ite (b := (wonOf (parOf rs) (chainsOf rs) t).any id) (o := .next) ?_ (fun h => ?_) (fun h => ?_)
 · rw [← won_plus _ hw]
   exact Ts.compare1 Ev.strC (Ev.name rfl) P2.inS Pt.bool
 · refine Exs.cons (Ex.addH W (xs := knownL (wlOf rs) t) (n := sOf (preA ++ nmL (wlOf rs) (hereOf t.length))) (v := sOf (verdL (valOf (parOf rs) (chainsOf rs) t))) (q := none) rfl (fun a b => ?_) (fun a b => ?_) hg.name hvg.val (by rw [sOf_len, List.length_append]; simp; omega) (by rw [sOf_len]; omega) (by omega)) (Exs.post (LeL.le ⟨rfl, rfl, rfl, rfl, rfl, trivial⟩) Exs.nil)
   · rw [← pp_app]
     exact Ev.binop Ev.strC (Ev.name rfl) (P2.addS (by rw [show ("Pp" : Str).length = 2 by decide +kernel, sOf_len, sizeLine_eq]; omega))
   · refine Ev.ifExp (b := (wonOf (parOf rs) (chainsOf rs) t).any not) ?_ (fun h2 => ?_) (fun h2 => ?_)
     · rw [← won_minus _ hw]
       exact Ts.compare1 Ev.strC (Ev.name rfl) P2.inS Pt.bool
     · have e : valOf (parOf rs) (chainsOf rs) t = 3 := by unfold valOf; rw [if_pos h, if_pos h2]
       rw [e, ← ofString_sOf "!=" (verdL 3) rfl]
       exact Ev.strC
     · have e : valOf (parOf rs) (chainsOf rs) t = 1 := by unfold valOf; rw [if_pos h, if_neg (by rw [h2]; decide)]
       rw [e, ← ofString_sOf ">" (verdL 1) rfl]
       exact Ev.strC
 · refine Exs.cons (Ex.addH W (xs := knownL (wlOf rs) t) (n := sOf (preA ++ nmL (wlOf rs) (hereOf t.length))) (v := sOf (verdL (valOf (parOf rs) (chainsOf rs) t))) (q := none) rfl (fun a b => ?_) (fun a b => ?_) hg.name hvg.val (by rw [sOf_len, List.length_append]; simp; omega) (by rw [sOf_len]; omega) (by omega)) (Exs.post (LeL.le ⟨rfl, rfl, rfl, rfl, rfl, trivial⟩) Exs.nil)
   · rw [← pp_app]
     exact Ev.binop Ev.strC (Ev.name rfl) (P2.addS (by rw [show ("Pp" : Str).length = 2 by decide +kernel, sOf_len, sizeLine_eq]; omega))
   · refine Ev.ifExp (b := (wonOf (parOf rs) (chainsOf rs) t).any not) ?_ (fun h2 => ?_) (fun h2 => ?_)
     · rw [← won_minus _ hw]
       exact Ts.compare1 Ev.strC (Ev.name rfl) P2.inS Pt.bool
     · have e : valOf (parOf rs) (chainsOf rs) t = 2 := by unfold valOf; rw [if_neg (by rw [h]; decide), if_pos h2]
       rw [e, ← ofString_sOf "<" (verdL 2) rfl]
       exact Ev.strC
     · have e : valOf (parOf rs) (chainsOf rs) t = 0 := by unfold valOf; rw [if_neg (by rw [h]; decide), if_neg (by rw [h2]; decide)]
       rw [e, ← ofString_sOf "==" (verdL 0) rfl]
       exact Ev.strC
noncomputable abbrev baseM (rs : List RdT) (m : Nat) (t : List Nat) : List (Str × Loc) := [("rows", rowsLoc rs), ("chains", chLoc rs), ("moves", hdLoc (movesL (wlOf rs) (parOf rs) (chainsOf rs) m)), ("known", hdLoc (knownL (wlOf rs) t))]
theorem play_turn (W : Wd C) {rs : List RdT} (hrs : rs.length = 4) (O : WordsOk (wlOf rs)) (hcl : (chainsOf rs).length = 4) (hch : ∀ i < 4, i ∈ (chainsOf rs).getD i []) (t : List Nat) (ht : t.length < 16) (L : Addr) :
 Exs C (k + 2) (callEnvC fd_q1 L fn_q1) (upd (ofL (baseM rs t.length t)) "mask" (.fr (.int (t.length : Nat)))) loopB .next (ofL (baseM rs (t.length + 1) (t ++ [valOf (parOf rs) (chainsOf rs) t]))) := by
 have hml := moves_len (wlOf rs) (parOf rs) (chainsOf rs) t.length
 have hkl := known_len (wlOf rs) t
 refine Exs.cons (play_here W t.length ht L rfl) (Exs.freeze (x := "here") (l' := .fr (.lst (intsP (hereOf t.length)))) rfl rfl ?_)
 refine Exs.cons (play_name W hrs O (fun i => here_lt) (here_len _) L rfl rfl) ?_
 refine Exs.pre (ρ2 := ofL (("moves", hdLoc (movesL (wlOf rs) (parOf rs) (chainsOf rs) t.length)) :: baseI rs (hereOf t.length) t.length (knownL (wlOf rs) t))) (LeL.le ⟨rfl, rfl, rfl, rfl, rfl, rfl, rfl, trivial⟩) ?_
 refine Exs.cons (play_moves W hrs O hcl (fun i => here_lt) (here_len _) t.length (knownL (wlOf rs) t) (movesL (wlOf rs) (parOf rs) (chainsOf rs) t.length) (by omega) L) ?_
 have em : movesL (wlOf rs) (parOf rs) (chainsOf rs) t.length ++ (hereOf t.length).map (fun i => (sOf (preA ++ nmL (wlOf rs) (hereOf t.length)), sOf (moveE (wlOf rs) (parOf rs) (chainsOf rs) (hereOf t.length) i))) = movesL (wlOf rs) (parOf rs) (chainsOf rs) (t.length + 1) := (moves_snoc _ _ _ _).symm
 rw [em]
 refine Exs.cons (Ex.assign (l := .fr (.str (wonS []))) ?_ (by walk_at "st")) ?_
 · rw [show wonS [] = ("" : Str) from (ofString_sOf "" [] rfl).symm]
   exact Ev.strC
 refine Exs.pre (ρ2 := ofL (("won", .fr (.str (wonS []))) :: baseW rs t.length (movesL (wlOf rs) (parOf rs) (chainsOf rs) (t.length + 1)) t)) (LeL.le ⟨rfl, rfl, rfl, rfl, rfl, rfl, rfl, trivial⟩) ?_
 refine Exs.cons (play_won W hrs O hch t ht L) ?_
 refine Exs.cons (play_file W O _ t ht L) ?_
 refine Exs.cons (ρ' := ofL (baseM rs (t.length + 1) (t ++ [valOf (parOf rs) (chainsOf rs) t]))) (Ex.ite (b := ((t.length : Nat) : Int) == 0) (o := .next) (Ts.compare1 (Ev.name rfl) Ev.intC P2.eqI Pt.bool) (fun h => ?_) (fun h => ?_)) (Exs.post .refl Exs.nil)
 · have h0 : t.length = 0 := by
    have := eq_of_beq h
    omega
   have ek : knownL (wlOf rs) t ++ [(sOf (preA ++ nmL (wlOf rs) (hereOf t.length)), sOf (verdL (valOf (parOf rs) (chainsOf rs) t)))] ++ [(("Pp" : Str), ("?" : Str))] = knownL (wlOf rs) (t ++ [valOf (parOf rs) (chainsOf rs) t]) := by
    rw [known_snoc]
    unfold blockK
    rw [if_pos h0, List.append_assoc, ofString_sOf "Pp" preA rfl, ofString_sOf "?" [63] rfl]
    rfl
   unfold baseM
   rw [← ek]
   refine Exs.cons (Ex.addH W (n := "Pp") (v := "?") (q := none) rfl (fun a b => Ev.strC) (fun a b => Ev.strC) ?_ ?_ (by rw [show ("Pp" : Str).length = 2 by decide +kernel]; omega) (by rw [show ("?" : Str).length = 1 by decide +kernel]; omega) (by rw [List.length_append]; simp; omega)) (Exs.post (LeL.le ⟨rfl, rfl, rfl, rfl, trivial⟩) Exs.nil)
   · rw [ofString_sOf "Pp" preA rfl]
     exact (pre_good O (.inl rfl)).name
   · rw [ofString_sOf "?" [63] rfl]
     exact goodL.val fun c hc => .inl (by revert c; decide)
 · have h0 : t.length ≠ 0 := by
    intro q
    rw [q] at h
    cases h
   have ek : knownL (wlOf rs) t ++ [(sOf (preA ++ nmL (wlOf rs) (hereOf t.length)), sOf (verdL (valOf (parOf rs) (chainsOf rs) t)))] = knownL (wlOf rs) (t ++ [valOf (parOf rs) (chainsOf rs) t]) := by
    rw [known_snoc]
    unfold blockK
    rw [if_neg h0]
   unfold baseM
   rw [← ek]
   exact Exs.post (LeL.le ⟨rfl, rfl, rfl, rfl, trivial⟩) Exs.nil
theorem tab_fold (par : Nat → Bool) (ch : List (List Nat)) : ∀ n, (List.range n).foldl (fun t _ => t ++ [valOf par ch t]) [] = tabOf par ch n
 | 0 => rfl
 | n + 1 => by
  rw [List.range_succ, List.foldl_append, tab_fold par ch n]
  rfl
theorem tab_len (par : Nat → Bool) (ch : List (List Nat)) : ∀ n, (tabOf par ch n).length = n
 | 0 => rfl
 | n + 1 => by simp [tabOf, tab_len par ch n]
theorem play_spec (W : Wd C) (rs : List RdT) (hrs : rs.length = 4) (hf : fitsR rs) (O : WordsOk (wlOf rs)) (hcl : (chainsOf rs).length = 4) (hch : ∀ i < 4, i ∈ (chainsOf rs).getD i []) :
 PN C (k + 3) (.ref fn_q1) [.lst (rs.map rdP)] (hdLoc (knownL (wlOf rs) (tabOf (parOf rs) (chainsOf rs) 16))) := by
 have F : IsDef C fn_q1 fd_q1 ["rows"] (bodyOf st_q1) := isDef_of W (fun P => by kernel_rfl) (fun P => by kernel_rfl) (by kernel_rfl) rfl
 refine PN.ret F (Binds.plain fun vs hv => ?_) rfl fun L => ?_
 · obtain ⟨v, rfl⟩ := len1 hv; rfl
 refine Ret.step (Ex.assign (Ev.list EvL.nil) (by walk_at "st")) ?_
 refine Ret.pre (ρ2 := ofL [("chains", .ol []), ("rows", .fr (.lst (rs.map rdP)))]) (LeL.le ⟨rfl, rfl, trivial⟩) ?_
 refine Ret.step (play_chains W rs hrs hf L) ?_
 refine Ret.freeze "chains" (l1 := chLoc rs) rfl rfl ?_
 refine Ret.step (Ex.assign (Ev.headers W (by walk_at "ev") (Ev.list EvL.nil)) (by walk_at "st")) ?_
 refine Ret.step (Ex.assign (Ev.headers W (by walk_at "ev") (Ev.list EvL.nil)) (by walk_at "st")) ?_
 refine Ret.pre (ρ2 := ofL (baseM rs 0 [])) (LeL.le ⟨rfl, rfl, rfl, rfl, trivial⟩) ?_
 have ef := tab_fold (parOf rs) (chainsOf rs) 16
 refine Ret.step (ρ1 := ofL (baseM rs 16 (tabOf (parOf rs) (chainsOf rs) 16))) (Ex.forL (EvIt.range1 (b := 16) (n := 16) (by walk_at "ev") (by walk_at "ev") (by rfl) (by rfl)) ?_) (Ret.own rfl)
 rw [range_ints, ← ef]
 have el : ((List.range 16).foldl (fun t _ => t ++ [valOf (parOf rs) (chainsOf rs) t]) []).length = 16 := by rw [ef, tab_len]
 have key := LoopL.foldA (C := C) (k := k + 2) (env := callEnvC fd_q1 L fn_q1) (t := forT (nthS (bodyOf st_q1) 4)) (body := loopB) (fun (i : Nat) => PV.int (i : Nat)) (fun t => ofL (baseM rs t.length t)) (fun t _ => t ++ [valOf (parOf rs) (chainsOf rs) t]) (fun xs t => t.length + xs.length = 16 ∧ xs = (List.range 16).drop t.length) (List.range 16) (.itr (intsP (List.range 16))) [] Steps.name ⟨rfl, rfl⟩ ?_
 · rw [el] at key
   exact key
 rintro t i xs ⟨hl, hx⟩
 simp only [List.length_cons] at hl
 have hlt : t.length < 16 := by omega
 have hd : (List.range 16).drop t.length = t.length :: (List.range 16).drop (t.length + 1) := by
  rw [List.drop_eq_getElem_cons (by simpa using hlt)]
  simp
 rw [hd] at hx
 injection hx with hi hx
 subst hi
 have e1 : (t ++ [valOf (parOf rs) (chainsOf rs) t]).length = t.length + 1 := by simp
 refine ⟨⟨by rw [e1]; omega, by rw [e1]; exact hx⟩, _, As.name (by walk_at "st"), ?_⟩
 rw [e1]
 exact play_turn W hrs O hcl hch t hlt L
end
section
noncomputable def leadN (n : Nat) : List Nat := List.replicate (n % 4) 32 ++ (List.replicate (n / 4 % 2) 9 ++ (List.replicate (n / 8 % 3) 32 ++ (List.replicate (n / 24 % 2) 9 ++ List.replicate (n / 48 % 2) 32)))
noncomputable def colsLt (a b : List Int) : Bool := (a.zip b).all fun q => decide (q.1 < q.2)
noncomputable def checkL (a b : Nat) : Bool := lessOf (wsOf (sOf (leadN a))) (wsOf (sOf (leadN b))) == colsLt (colsOf (sOf (leadN a))) (colsOf (sOf (leadN b)))
theorem less_all : ((List.range 96).all fun a => (List.range 96).all fun b => checkL a b) = true := by decide +kernel
end
section
noncomputable def chU (up : List Nat) : List (List Nat) := (List.range 4).foldl (fun cs i => cs ++ [[i] ++ (if up.getD i 4 = 4 then [] else cs.getD (up.getD i 4) [])]) []
noncomputable def closedU (up s : List Nat) : Bool := s.all fun i => up.getD i 4 == 4 || s.contains (up.getD i 4)
noncomputable def dueOf (w : Int) : Nat := if 0 < w then 1 else if w < 0 then 2 else 0
noncomputable def rowsQ (p : Nat) : List RowT := (List.range 4).map fun i => ("", (if p.testBit i then 1 else 0), "", "")
noncomputable def checkW (up : List Nat) (p : Nat) (T : List Nat) : Bool := (List.range 16).all fun m => !closedU up (hereOf m) || T.getD m 0 == dueOf (worthOf (hereOf m) (rowsQ p) up)
noncomputable abbrev hackU (u1 : Nat) : Bool := ([4, 0, 1] : List Nat).all fun u2 => ([4, 0, 1, 2] : List Nat).all fun u3 => (List.range 16).all fun p => checkW [4, u1, u2, u3] p (tabOf p.testBit (chU [4, u1, u2, u3]) 16)
theorem hack_4 : hackU 4 = true := by decide +kernel
theorem hack_0 : hackU 0 = true := by decide +kernel
theorem hack_all : ((([4, 0] : List Nat).all fun u1 => ([4, 0, 1] : List Nat).all fun u2 => ([4, 0, 1, 2] : List Nat).all fun u3 => (List.range 16).all fun p => checkW [4, u1, u2, u3] p (tabOf p.testBit (chU [4, u1, u2, u3]) 16))) = true :=
 List.all_eq_true.mpr (List.forall_mem_cons.mpr ⟨hack_4, List.forall_mem_cons.mpr ⟨hack_0, fun _ h => nomatch h⟩⟩)
end
section
noncomputable def exF (x : Str) : Option Int := (exL.find? fun e => e.1 == x).map (·.2)
theorem ex_lookup (x : Str) : Spec.lookup (.str x) exD = (exF x).map .int := by
 unfold exD exF
 induction exL with
 | nil => rfl
 | cons e r ih =>
  simp only [List.map_cons, Spec.lookup, List.find?_cons]
  have h : Spec.same (.str e.1) (.str x) = (e.1 == x) := by simp [Spec.same]
  rw [h]
  cases e.1 == x with
  | true => rfl
  | false => simpa using ih
noncomputable def opL (k : Nat) : List Nat := (opsL.getD k "").cps.toList
noncomputable def plainC (c : Nat) (d : Nat) : Bool := !isB1 (c : Nat) && b3 c == sOf [d]
theorem several_len : (UnicodeData.severalLower.all fun e => decide (e.2.length ≤ 10)) = true := by decide +kernel
theorem lookup_mem {l : List (Nat × List Nat)} {c : Nat} {r : List Nat} (h : l.lookup c = some r) : ∃ e ∈ l, e.2 = r := by
 induction l with
 | nil => cases h
 | cons e l ih =>
  rw [List.lookup_cons] at h
  split at h
  · cases h; exact ⟨e, List.mem_cons_self, rfl⟩
  · obtain ⟨e', he, hr⟩ := ih h
    exact ⟨e', List.mem_cons_of_mem _ he, hr⟩
theorem low_len (c : Nat) : (lowS ⟨#[c]⟩).length ≤ 10 := by
 have h1 : (Unicode.lowerOf c).length ≤ 10 := by
  unfold Unicode.lowerOf Unicode.image
  split
  · rename_i cs hcs
    obtain ⟨e, he, hr⟩ := lookup_mem hcs
    have := List.all_eq_true.mp several_len e he
    rw [hr] at this
    exact of_decide_eq_true this
  · simp
 have h2 : (Unicode.lowerAt #[c] 0).length ≤ 10 := by
  unfold Unicode.lowerAt
  simp only [List.getElem?_toArray, List.getElem?_cons_zero]
  split
  · simp
  · exact h1
 show (placed (⟨#[c]⟩ : Str) fun i _ => Unicode.lowerAt (⟨#[c]⟩ : Str).cps i).size ≤ 10
 unfold placed
 simpa using h2
theorem b3f_drop {N : Nat} {lo : Int} (hN : ((b3L.take N).all fun x => decide (x.1 < lo)) = true) {c : Int} (h : lo ≤ c) : b3f c = ((b3L.drop N).find? fun x => x.1 == c).map (·.2) := by
 unfold b3f
 have e : b3L = b3L.take N ++ b3L.drop N := (List.take_append_drop N b3L).symm
 conv => lhs; rw [e]
 rw [List.find?_append]
 have : (b3L.take N).find? (fun x => x.1 == c) = none := by
  rw [List.find?_eq_none]
  intro x hx q
  have h1 := of_decide_eq_true (List.all_eq_true.mp hN x hx)
  have h2 : x.1 = c := eq_of_beq q
  omega
 rw [this, Option.none_or]
theorem b3_keys : (b3L.all fun x => decide (181 ≤ x.1)) = true := by decide +kernel
theorem b3_low {c : Nat} (h : c < 181) : b3 c = lowS ⟨#[c]⟩ := by
 unfold b3
 have : b3f (c : Int) = none := by
  unfold b3f
  rw [Option.map_eq_none_iff, List.find?_eq_none]
  intro x hx q
  have h1 := of_decide_eq_true (List.all_eq_true.mp b3_keys x hx)
  have h2 : x.1 = (c : Int) := eq_of_beq q
  omega
 rw [this]; rfl
theorem op_facts : ∀ k < 48, (decide (1 ≤ (opL k).length) && decide ((opL k).length ≤ 3) && (opL k).all (fun c => decide (33 ≤ c) && decide (c < 97) || decide (122 < c) && decide (c < 127)) && (exF (sOf (opL k)) == some (7 + (k : Int)))) = true := by decide +kernel
theorem small_low : ∀ c < 127, (c = 32 ∨ c = 9 ∨ (33 ≤ c ∧ c < 127 ∧ ¬ (65 ≤ c ∧ c ≤ 90))) → (!isB1 (c : Nat) && lowS ⟨#[c]⟩ == sOf [c]) = true := by decide +kernel
theorem plain_small (c : Nat) (hc : c < 127) (h : (c = 32 ∨ c = 9 ∨ (33 ≤ c ∧ c < 127 ∧ ¬ (65 ≤ c ∧ c ≤ 90)))) : plainC c c = true := by
 unfold plainC
 rw [b3_low (Nat.lt_trans hc (by decide))]
 exact small_low c hc h
theorem op_caps : ∀ k < 48, (opL k).all (fun c => decide (c < 65) || decide (91 ≤ c)) = true := by decide +kernel
noncomputable def FN : List (Int × Nat) := [(119808, 202), (119860, 228), (119912, 254), (120016, 298), (120172, 364), (120224, 390), (120276, 416), (120328, 442), (120380, 468), (120432, 494)]
theorem big_letters : (FN.all fun q => ((b3L.take q.2).all fun x => decide (x.1 < q.1)) && (List.range 26).all fun p => !isB1 (q.1 + (p : Nat)) && ((b3L.drop q.2).find? fun x => x.1 == q.1 + (p : Nat)).map (·.2) == some (sOf [97 + p])) = true := by decide +kernel
theorem small_letters : (([97, 65] : List Nat).all fun f => (List.range 26).all fun p => !isB1 ((f + p : Nat) : Int) && lowS ⟨#[f + p]⟩ == sOf [97 + p]) = true := by decide +kernel
theorem firsts_split : (firstsL.all fun f => (f == 97 || f == 65) || FN.any fun q => q.1 == f) = true := by decide +kernel
theorem FN_pos : (FN.all fun q => decide (0 ≤ q.1)) = true := by decide +kernel
theorem plain_letters : (firstsL.all fun f => (List.range 26).all fun p => plainC (f.toNat + p) (97 + p)) = true := by
 rw [List.all_eq_true]
 intro f hf
 rw [List.all_eq_true]
 intro p hp
 have hp' := List.mem_range.mp hp
 have hs := List.all_eq_true.mp firsts_split f hf
 rw [Bool.or_eq_true] at hs
 unfold plainC
 rcases hs with hs | hs
 · have : ∃ g ∈ ([97, 65] : List Nat), f = ((g : Nat) : Int) := by
    rw [Bool.or_eq_true] at hs
    rcases hs with h | h
    · exact ⟨97, by simp, eq_of_beq h⟩
    · exact ⟨65, by simp, eq_of_beq h⟩
   obtain ⟨g, hg, rfl⟩ := this
   have := List.all_eq_true.mp (List.all_eq_true.mp small_letters g hg) p hp
   rw [Int.toNat_natCast, b3_low (by simp at hg; omega)]
   exact this
 · obtain ⟨q, hq, e⟩ := List.any_eq_true.mp hs
   obtain rfl : q.1 = f := eq_of_beq e
   have h := List.all_eq_true.mp big_letters q hq
   rw [Bool.and_eq_true] at h
   have h2 := List.all_eq_true.mp h.2 p hp
   rw [Bool.and_eq_true] at h2
   have h0 := of_decide_eq_true (List.all_eq_true.mp FN_pos q hq)
   have ec : ((q.1.toNat + p : Nat) : Int) = q.1 + (p : Nat) := by omega
   rw [ec, h2.1, Bool.true_and]
   unfold b3
   rw [ec, b3f_drop h.1 (show q.1 ≤ q.1 + (p : Nat) by omega), eq_of_beq h2.2]
   simp
theorem plain_vis : (visL.all fun c => plainC c c) = true := by decide +kernel
theorem code_facts : ((List.range 8).all fun j => (List.range 16).all fun d => let r := runsL.getD j (0, 0)
 (!decide ((d : Int) ≤ r.2 - r.1) || isB1 (r.1 + (d : Int))) && visL.contains (r.1 - 1).toNat && visL.contains (r.2 + 1).toNat && decide (r.2 - r.1 < 16)) = true := by decide +kernel
theorem ex_keys : (exL.all fun e => e.1.cps.toList.all fun c => !isLet c) = true := by decide +kernel
end
section
theorem ex_none {l : List Nat} {c : Nat} (hc : c ∈ l) (h : isLet c = true) : exF (sOf l) = none := by
 unfold exF
 rw [Option.map_eq_none_iff, List.find?_eq_none]
 intro e he q
 have hk := List.all_eq_true.mp ex_keys e he
 have q2 : e.1 = sOf l := eq_of_beq q
 rw [q2, sOf_cps] at hk
 have := List.all_eq_true.mp hk c hc
 rw [h] at this
 cases this
theorem code_vis (z : Int) : isB1 (codeOf z) = unseenOf z ∧ (unseenOf z = false → (codeOf z).toNat ∈ visL) := by
 have h1 := Int.fmod_nonneg_of_pos z (show (0 : Int) < 8 by decide)
 have h2 := Int.fmod_lt_of_pos z (show (0 : Int) < 8 by decide)
 have h3 := Int.fmod_nonneg_of_pos (z.fdiv 8) (show (0 : Int) < 5 by decide)
 have h4 := Int.fmod_lt_of_pos (z.fdiv 8) (show (0 : Int) < 5 by decide)
 refine x02 (run_ok z) fun a b c => ?_
 have m1 := Int.fmod_nonneg_of_pos (z.fdiv 40) (show (0 : Int) < (runAt z).2 - (runAt z).1 + 1 by omega)
 have m2 := Int.fmod_lt_of_pos (z.fdiv 40) (show (0 : Int) < (runAt z).2 - (runAt z).1 + 1 by omega)
 have cf := fun d (hd : d < 16) => List.all_eq_true.mp (List.all_eq_true.mp code_facts (z.fmod 8).toNat (List.mem_range.mpr (by omega))) d (List.mem_range.mpr hd)
 have er : runsL.getD (z.fmod 8).toNat (0, 0) = runAt z := rfl
 simp only [er, Bool.and_eq_true, Bool.or_eq_true, Bool.not_eq_true', decide_eq_false_iff_not, decide_eq_true_eq, List.contains_iff_mem] at cf
 obtain ⟨⟨⟨-, lo⟩, hi⟩, wd⟩ := cf 0 (by decide)
 have ins : ∀ v : Int, (runAt z).1 ≤ v → v ≤ (runAt z).2 → isB1 v = true := fun v h1 h2 => by
  have := (cf (v - (runAt z).1).toNat (by omega)).1.1.1
  rw [show (runAt z).1 + (((v - (runAt z).1).toNat : Nat) : Int) = v by omega] at this
  exact this.resolve_left (by omega)
 have vis : ∀ n ∈ visL, isB1 (n : Nat) = false := fun n hn => by
  have := List.all_eq_true.mp plain_vis n hn
  unfold plainC at this
  simp only [Bool.and_eq_true, Bool.not_eq_true'] at this
  exact this.1
 have fin : ∀ v : Int, codeOf z = v → ((runAt z).1 ≤ v ∧ v ≤ (runAt z).2) ∨ (0 ≤ v ∧ ¬((runAt z).1 ≤ v ∧ v ≤ (runAt z).2) ∧ v.toNat ∈ visL) → isB1 (codeOf z) = unseenOf z ∧ (unseenOf z = false → (codeOf z).toNat ∈ visL) := by
  intro v e hv
  unfold unseenOf
  rw [e]
  rcases hv with ⟨h1, h2⟩ | ⟨h0, h1, h2⟩
  · rw [ins v h1 h2, decide_eq_true h1, decide_eq_true h2]
    exact ⟨rfl, fun q => by exact tf q⟩
  · have e3 : (decide ((runAt z).1 ≤ v) && decide (v ≤ (runAt z).2)) = false := by
     rw [Bool.and_eq_false_iff, decide_eq_false_iff_not, decide_eq_false_iff_not]
     omega
    rw [e3]
    have := vis v.toNat h2
    rw [Int.toNat_of_nonneg h0] at this
    exact ⟨this, fun _ => h2⟩
 unfold codeOf at fin
 generalize hj : ((z.fdiv 8).fmod 5).toNat = j at fin
 have hj5 : j < 5 := by omega
 unfold codeOf
 rw [hj]
 rcases lt5 j hj5 with rfl | rfl | rfl | rfl | rfl
 · exact fin _ rfl (.inl ⟨Int.le_refl _, b⟩)
 · exact fin _ rfl (.inl ⟨b, Int.le_refl _⟩)
 · have e : (codesOf z).getD 2 0 = (runAt z).1 + (z.fdiv 40).fmod ((runAt z).2 - (runAt z).1 + 1) := rfl
   exact fin _ rfl (.inl ⟨by rw [e]; omega, by rw [e]; omega⟩)
 · have e : (codesOf z).getD 3 0 = (runAt z).1 - 1 := rfl
   exact fin _ rfl (.inr ⟨by rw [e]; omega, by rw [e]; omega, lo⟩)
 · have e : (codesOf z).getD 4 0 = (runAt z).2 + 1 := rfl
   exact fin _ rfl (.inr ⟨by rw [e]; omega, by rw [e]; omega, hi⟩)
end
section
theorem plainC.of {c d : Nat} (h : plainC c d = true) : isB1 (c : Nat) = false ∧ b3 c = sOf [d] ∧ (lowS ⟨#[c]⟩).length ≤ 10 := by
 unfold plainC at h
 simp only [Bool.and_eq_true, Bool.not_eq_true'] at h
 exact ⟨h.1, eq_of_beq h.2, low_len c⟩
noncomputable def phi (c : Nat) : Nat := (b3 c).cps.toList.headD 0
theorem phi_of {c d : Nat} (h : plainC c d = true) : phi c = d := by
 unfold phi
 rw [(plainC.of h).2.1]
 rfl
theorem map_phi_self : ∀ {l : List Nat}, (∀ c ∈ l, plainC c c = true) → l.map phi = l
 | [], _ => rfl
 | c :: r, h => by rw [List.map_cons, phi_of (h c List.mem_cons_self), map_phi_self fun d hd => h d (List.mem_cons_of_mem _ hd)]
theorem join_map1 (l : List Nat) : Txt.join "" (l.map fun c => sOf [c]) = sOf l := by
 have : (l.map fun c => sOf [c]) = (l.map fun c => [c]).map sOf := by rw [List.map_map]; rfl
 rw [this, join_sOf]
 congr 2
 induction l with
 | nil => rfl
 | cons x r ih => simp at ih ⊢; exact ih
theorem kept_phi {T : List Nat} (h : ∀ c ∈ T.filter fun (c : Nat) => !isB1 (c : Int), ∃ d, plainC c d = true) : keptOf (sOf T) = ((T.filter fun (c : Nat) => !isB1 (c : Int)).map phi).map fun c => sOf [c] := by
 unfold keptOf
 rw [sOf_cps, List.map_map]
 apply List.map_congr_left
 intro c hc
 obtain ⟨d, hd⟩ := h c hc
 rw [(plainC.of hd).2.1]
 show sOf [d] = sOf [phi c]
 rw [phi_of hd]
theorem wsGo_app : ∀ (l r : List Nat) (count : List Int) (b n nt : Nat), (∀ c ∈ l, c = 32 ∨ c = 9) → (∀ c, r.head? = some c → c ≠ 32 ∧ c ≠ 9) → wsGo (l ++ r) count b n nt = wsGo l count b n nt ∧ (wsGo l count b n nt).2.2.1 = n + l.length
 | [], [], count, b, n, nt, _, _ => ⟨rfl, rfl⟩
 | [], c :: r, count, b, n, nt, _, h => by
  obtain ⟨h1, h2⟩ := h c rfl
  simp [wsGo, h1, h2]
 | c :: l, r, count, b, n, nt, hl, hr => by
  have hl' : ∀ c ∈ l, c = 32 ∨ c = 9 := fun d hd => hl d (List.mem_cons_of_mem _ hd)
  rcases hl c List.mem_cons_self with rfl | rfl
  · obtain ⟨e1, e2⟩ := wsGo_app l r count (b + 1) (n + 1) nt hl' hr
    simp only [List.cons_append, wsGo, if_true, List.length_cons]
    exact ⟨e1, by rw [e2]; omega⟩
  · obtain ⟨e1, e2⟩ := wsGo_app l r (bump count b) 0 (n + 1) (nt + 1) hl' hr
    simp only [List.cons_append, wsGo, show ((9 : Nat) = 32) = False by simp, if_false, if_true, List.length_cons]
    exact ⟨e1, by rw [e2]; omega⟩
theorem lead_signs (n : Nat) : ∀ c ∈ leadN n, c = 32 ∨ c = 9 := by
 intro c hc
 unfold leadN at hc
 simp only [List.mem_append, List.mem_replicate] at hc
 rcases hc with h | h | h | h | h
 · exact .inl h.2
 · exact .inr h.2
 · exact .inl h.2
 · exact .inr h.2
 · exact .inl h.2
theorem mul_blank : ∀ n < 4, Txt.mul " " ((n : Nat) : Int) = sOf (List.replicate n 32) := by decide +kernel
theorem mul_tab : ∀ n < 2, Txt.mul "\t" ((n : Nat) : Int) = sOf (List.replicate n 9) := by decide +kernel
theorem md (Y a c b : Nat) (h : b ∣ c) : Y / a % b = Y % (a * c) / a % b := by rw [Nat.mod_mul_right_div_self, Nat.mod_mod_of_dvd _ h]
theorem fdN (a b : Nat) (hb : 0 < b) : ((a : Int).fdiv (b : Nat)) = ((a / b : Nat) : Int) := by rw [Int.fdiv_eq_ediv_of_nonneg _ (Int.natCast_nonneg b)]; rfl
theorem fmN (a b : Nat) : ((a : Int).fmod (b : Nat)) = ((a % b : Nat) : Int) := by rw [Int.fmod_eq_emod_of_nonneg _ (Int.natCast_nonneg b)]; rfl
theorem fdm (Y a c b : Nat) (ha : 0 < a) (h : b ∣ c) : ((Y : Int).fdiv (a : Nat)).fmod (b : Nat) = ((Y % (a * c) / a % b : Nat) : Int) := by rw [fdN _ _ ha, fmN, md Y a c b h]
theorem lead_eq (Y : Nat) : leadOf (Y : Int) = sOf (leadN (Y % 96)) := by
 have e1 : (Y : Int).fmod 4 = ((Y % 96 % 4 : Nat) : Int) := (fmN Y 4).trans (congrArg Int.ofNat (Nat.mod_mod_of_dvd Y (by decide : 4 ∣ 96)).symm)
 have e2 : ((Y : Int).fdiv 4).fmod 2 = ((Y % 96 / 4 % 2 : Nat) : Int) := fdm Y 4 24 2 (by decide) (by decide)
 have e3 : ((Y : Int).fdiv 8).fmod 3 = ((Y % 96 / 8 % 3 : Nat) : Int) := fdm Y 8 12 3 (by decide) (by decide)
 have e4 : ((Y : Int).fdiv 24).fmod 2 = ((Y % 96 / 24 % 2 : Nat) : Int) := fdm Y 24 4 2 (by decide) (by decide)
 have e5 : ((Y : Int).fdiv 48).fmod 2 = ((Y % 96 / 48 % 2 : Nat) : Int) := fdm Y 48 2 2 (by decide) (by decide)
 unfold leadOf leadN
 rw [e1, e2, e3, e4, e5, mul_blank _ (Nat.mod_lt _ (by decide)), mul_tab _ (Nat.mod_lt _ (by decide)), mul_blank _ (Nat.lt_trans (Nat.mod_lt _ (by decide)) (by decide : 3 < 4)), mul_tab _ (Nat.mod_lt _ (by decide)), mul_blank _ (Nat.lt_trans (Nat.mod_lt _ (by decide)) (by decide : 2 < 4)), sOf_add, sOf_add, sOf_add, sOf_add]
 simp only [List.append_assoc]
theorem lead_length (n : Nat) : (leadN n).length ≤ 10 := by
 unfold leadN
 simp only [List.length_append, List.length_replicate]
 have h := fun (k n : Nat) (q : 0 < k + 1) => Nat.le_of_lt_succ (Nat.mod_lt n q)
 exact Nat.le_trans (Nat.add_le_add (h 3 _ (by decide)) (Nat.add_le_add (h 1 _ (by decide)) (Nat.add_le_add (h 2 _ (by decide)) (Nat.add_le_add (h 1 _ (by decide)) (h 1 _ (by decide)))))) (by decide)
end
section
variable {C : Cx} {k : Nat}
noncomputable def kN (y : Int) : Nat := (opK y).toNat
noncomputable def fN (y : Int) : Nat := (firstOf y).toNat
noncomputable def pN (i y : Int) : Nat := (placeOf i y).toNat
noncomputable def bareL (i y : Int) : List Nat := leadN (y.toNat % 96) ++ (opL (kN y) ++ [fN y + pN i y])
noncomputable def tailL (y : Int) : List Nat := if unseenOf (zOf y) then [] else [(codeOf (zOf y)).toNat]
noncomputable def restL (i y : Int) : List Nat := opL (kN y) ++ ([97 + pN i y] ++ tailL y)
noncomputable def keptL (i y : Int) : List Nat := leadN (y.toNat % 96) ++ restL i y
noncomputable def rdOf (i x : Int) : RdT := (sOf (keptL i (yOf x)), (rowOf i x).2.1, (rowOf i x).2.2.1)
theorem y_nonneg (x : Int) : 0 ≤ yOf x := Int.fmod_nonneg_of_pos _ (by decide)
section
variable {i y : Int} (h0 : 0 ≤ i) (h4 : i < 4) (hy : 0 ≤ y)
include h0 h4
theorem p_lt : pN i y < 26 ∧ 6 * i.toNat ≤ pN i y ∧ (i < 3 → pN i y < 6 * i.toNat + 6) := by
 unfold pN placeOf
 have e : i.fdiv 3 = 0 ∨ i.fdiv 3 = 1 := by
  rw [Int.fdiv_eq_ediv_of_nonneg _ (by decide)]; omega
 have h3 : i.fdiv 3 = i / 3 := Int.fdiv_eq_ediv_of_nonneg _ (by decide)
 rcases e with e | e <;> rw [e]
 · have h1 := Int.fmod_nonneg_of_pos (y.fdiv 4608) (show (0 : Int) < 6 + 2 * 0 by decide)
   have h2 := Int.fmod_lt_of_pos (y.fdiv 4608) (show (0 : Int) < 6 + 2 * 0 by decide)
   omega
 · have h1 := Int.fmod_nonneg_of_pos (y.fdiv 4608) (show (0 : Int) < 6 + 2 * 1 by decide)
   have h2 := Int.fmod_lt_of_pos (y.fdiv 4608) (show (0 : Int) < 6 + 2 * 1 by decide)
   omega
omit h0 h4 in
theorem k_lt : kN y < 48 ∧ ((kN y : Nat) : Int) = opK y := by
 obtain ⟨a, b⟩ := opK_ok y
 unfold kN
 omega
omit h0 h4 in
theorem op_ok : 1 ≤ (opL (kN y)).length ∧ (opL (kN y)).length ≤ 3 ∧ (∀ c ∈ opL (kN y), 33 ≤ c ∧ c < 127 ∧ ¬ (65 ≤ c ∧ c ≤ 90) ∧ isLet c = false) ∧ exF (sOf (opL (kN y))) = some (7 + opK y) := by
 have h := op_facts (kN y) k_lt.1
 have h2 := op_caps (kN y) k_lt.1
 simp only [Bool.and_eq_true, decide_eq_true_eq, List.all_eq_true, Bool.or_eq_true] at h h2
 obtain ⟨⟨⟨a, b⟩, c⟩, d⟩ := h
 refine ⟨a, b, fun e he => ?_, ?_⟩
 · have q1 := c e he
   have q2 := h2 e he
   unfold isLet
   refine ⟨by omega, by omega, by omega, ?_⟩
   rw [Bool.and_eq_false_iff, decide_eq_false_iff_not, decide_eq_false_iff_not]
   omega
 · rw [k_lt.2] at d
   exact eq_of_beq d
omit h0 h4 in
theorem small_plain {c : Nat} (h : c = 32 ∨ c = 9 ∨ (33 ≤ c ∧ c < 127 ∧ ¬ (65 ≤ c ∧ c ≤ 90))) : plainC c c = true := by
 refine plain_small c ?_ h
 rcases h with rfl | rfl | h
 · decide
 · decide
 · exact h.2.1
theorem letter_plain : plainC (fN y + pN i y) (97 + pN i y) = true := by
 have h1 := Int.fmod_nonneg_of_pos (y.fdiv 36864) (show (0 : Int) < 12 by decide)
 have h2 := Int.fmod_lt_of_pos (y.fdiv 36864) (show (0 : Int) < 12 by decide)
 have hf : firstOf y ∈ firstsL := by
  unfold firstOf
  rw [List.getD_eq_getElem?_getD, List.getElem?_eq_getElem (show ((y.fdiv 36864).fmod 12).toNat < firstsL.length by show _ < 12; omega)]
  exact List.getElem_mem _
 exact List.all_eq_true.mp (List.all_eq_true.mp plain_letters _ hf) _ (List.mem_range.mpr (p_lt h0 h4).1)
omit h0 h4 in
theorem lead_plain (n : Nat) : ∀ c ∈ leadN n, plainC c c = true := fun c hc => small_plain ((lead_signs n c hc).imp id .inl)
omit h0 h4 in
theorem op_plain : ∀ c ∈ opL (kN y), plainC c c = true := fun c hc => small_plain (.inr (.inr ⟨(op_ok.2.2.1 c hc).1, (op_ok.2.2.1 c hc).2.1, (op_ok.2.2.1 c hc).2.2.1⟩))
omit h0 h4 in
theorem tail_vis : ∀ c ∈ tailL y, c ∈ visL := fun c hc => by
 unfold tailL at hc
 cases hu : unseenOf (zOf y) with
 | true => rw [hu] at hc; cases hc
 | false =>
  rw [hu] at hc
  have : c = (codeOf (zOf y)).toNat := by simpa using hc
  rw [this]
  exact (code_vis (zOf y)).2 hu
omit h0 h4 in
theorem tail_plain : ∀ c ∈ tailL y, plainC c c = true := fun c hc => List.all_eq_true.mp plain_vis c (tail_vis c hc)
omit h0 h4 in
theorem tail_len : (tailL y).length ≤ 1 := by unfold tailL; split <;> simp
theorem bare_all : ∀ c ∈ bareL i y, ∃ d, plainC c d = true := fun c hc => by
 unfold bareL at hc
 rw [List.mem_append, List.mem_append, List.mem_singleton] at hc
 rcases hc with hc | hc | rfl
 · exact ⟨c, lead_plain _ c hc⟩
 · exact ⟨c, op_plain c hc⟩
 · exact ⟨_, letter_plain h0 h4⟩
omit h0 h4 in
theorem bare_len : (bareL i y).length ≤ 14 := by
 have := lead_length (y.toNat % 96)
 have := (op_ok (y := y)).2.1
 unfold bareL
 simp only [List.length_append, List.length_singleton]
 omega
theorem phi_bare : (bareL i y).map phi = leadN (y.toNat % 96) ++ (opL (kN y) ++ [97 + pN i y]) := by
 unfold bareL
 rw [List.map_append, List.map_append, map_phi_self (lead_plain _), map_phi_self op_plain, List.map_singleton, phi_of (letter_plain h0 h4)]
theorem bareOf_eq (hy : 0 ≤ y) : bareOf i y = sOf (bareL i y) := by
 unfold bareOf bareL
 have e1 : leadOf y = sOf (leadN (y.toNat % 96)) := by
  have := lead_eq y.toNat
  rwa [Int.toNat_of_nonneg hy] at this
 have e2 : opOf y = sOf (opL (kN y)) := (sOf_eta _).symm
 have hp := place_ok y h0 h4
 have hf := first_ok y
 have e3 : (firstOf y + placeOf i y).toNat = fN y + pN i y := by unfold fN pN; omega
 rw [e1, e2, e3, show (⟨#[fN y + pN i y]⟩ : Str) = sOf [fN y + pN i y] from rfl, sOf_add, sOf_add, List.append_assoc]
noncomputable def textL (i y : Int) : List Nat := if unseenOf (zOf y) then (bareL i y).take (atOf i y).toNat ++ ([(codeOf (zOf y)).toNat] ++ (bareL i y).drop (atOf i y).toNat) else bareL i y ++ [(codeOf (zOf y)).toNat]
theorem textOf_eq (hy : 0 ≤ y) : textOf i y = sOf (textL i y) := by
 have hb := bareOf_eq h0 h4 hy
 have ha : 0 ≤ atOf i y := Int.fmod_nonneg_of_pos _ (by omega)
 unfold textOf textL
 split
 · rw [hb]
   conv => lhs; rw [show atOf i y = (((atOf i y).toNat : Nat) : Int) from (Int.toNat_of_nonneg ha).symm]
   rw [slice_take, slice_drop, show signOf (zOf y) = sOf [(codeOf (zOf y)).toNat] from rfl, sOf_add, sOf_add, List.append_assoc]
 · rw [hb, show signOf (zOf y) = sOf [(codeOf (zOf y)).toNat] from rfl, sOf_add]
theorem text_len : (textL i y).length ≤ 20 := by
 have := bare_len (i := i) (y := y)
 unfold textL
 split
 · simp only [List.length_append, List.length_singleton, List.length_take, List.length_drop]; omega
 · simp only [List.length_append, List.length_singleton]; omega
theorem text_filter : (textL i y).filter (fun (c : Nat) => !isB1 (c : Int)) = bareL i y ++ tailL y := by
 have hb : ∀ l : List Nat, (∀ c ∈ l, ∃ d, plainC c d = true) → l.filter (fun (c : Nat) => !isB1 (c : Int)) = l := fun l hl => by
  rw [List.filter_eq_self]
  intro c hc
  obtain ⟨d, hd⟩ := hl c hc
  rw [(plainC.of hd).1]; rfl
 have ha := bare_all (y := y) h0 h4
 obtain ⟨c1, c2⟩ := code_ok (zOf y)
 obtain ⟨v1, v2⟩ := code_vis (zOf y)
 unfold textL tailL
 cases hu : unseenOf (zOf y) with
 | true =>
  rw [if_pos rfl, if_pos rfl, List.filter_append, List.filter_append, hb _ fun c hc => ha c (List.mem_of_mem_take hc), hb _ fun c hc => ha c (List.mem_of_mem_drop hc)]
  have e : ([(codeOf (zOf y)).toNat] : List Nat).filter (fun (c : Nat) => !isB1 (c : Int)) = [] := by
   rw [List.filter_eq_nil_iff]
   intro c hc
   rw [List.mem_singleton] at hc
   rw [hc, Int.toNat_of_nonneg (by omega), v1, hu]; decide
  rw [e, List.nil_append, List.take_append_drop, List.append_nil]
 | false =>
  rw [if_neg (by decide), if_neg (by decide), List.filter_append, hb _ ha]
  congr 1
  rw [List.filter_eq_self]
  intro c hc
  rw [List.mem_singleton] at hc
  rw [hc, Int.toNat_of_nonneg (by omega), v1, hu]; rfl
theorem kept_eq (hy : 0 ≤ y) : keptOf (textOf i y) = (keptL i y).map fun c => sOf [c] := by
 rw [textOf_eq h0 h4 hy, kept_phi, text_filter h0 h4, List.map_append, phi_bare h0 h4, map_phi_self tail_plain]
 · unfold keptL restL
   simp only [List.append_assoc]
 · rw [text_filter h0 h4]
   intro c hc
   rw [List.mem_append] at hc
   rcases hc with hc | hc
   · exact bare_all h0 h4 c hc
   · exact ⟨c, tail_plain c hc⟩
omit h0 h4 in
theorem rest_head (c : Nat) (h : (restL i y).head? = some c) : c ≠ 32 ∧ c ≠ 9 := by
 obtain ⟨a, b, d, -⟩ := op_ok (y := y)
 unfold restL at h
 cases ho : opL (kN y) with
 | nil => rw [ho] at a; simp at a
 | cons q r =>
  rw [ho] at h d
  simp only [List.cons_append, List.head?_cons, Option.some.injEq] at h
  have := (d q List.mem_cons_self).1
  omega
omit h0 h4 in
theorem ws_kept : wsOf (sOf (keptL i y)) = wsOf (sOf (leadN (y.toNat % 96))) ∧ (wsOf (sOf (keptL i y))).2.2.1 = (leadN (y.toNat % 96)).length := by
 obtain ⟨a, b⟩ := wsGo_app (leadN (y.toNat % 96)) (restL i y) [] 0 0 0 (lead_signs _) rest_head
 have e : wsOf (sOf (keptL i y)) = wsOf (sOf (leadN (y.toNat % 96))) := by
  unfold wsOf
  rw [sOf_cps, sOf_cps]
  exact a
 refine ⟨e, ?_⟩
 rw [e]
 unfold wsOf
 rw [sOf_cps, b]
 omega
omit h0 h4 in
theorem rest_eq : restOf (sOf (keptL i y)) = sOf (restL i y) := by
 unfold restOf
 rw [ws_kept.2, slice_drop]
 unfold keptL
 rw [List.drop_left]
theorem in_size (j : Nat) (h : (opL (kN y)).length < j) : exF (Txt.slice (restOf (sOf (keptL i y))) none (some ((j : Nat) : Int))) = none := by
 rw [rest_eq, slice_take]
 refine ex_none (c := 97 + pN i y) ?_ ?_
 · unfold restL
   rw [List.take_append, List.mem_append]
   right
   obtain ⟨m, hm⟩ : ∃ m, j - (opL (kN y)).length = m + 1 := ⟨j - (opL (kN y)).length - 1, by omega⟩
   rw [hm]
   simp
 · have := (p_lt (y := y) h0 h4).1
   unfold isLet
   simp; omega
omit h0 h4 in
theorem at_size : exF (Txt.slice (restOf (sOf (keptL i y))) none (some (((opL (kN y)).length : Nat) : Int))) = some (7 + opK y) := by
 rw [rest_eq, slice_take]
 unfold restL
 rw [List.take_left]
 exact op_ok.2.2.2
end
theorem rd_eq (i x : Int) (h0 : 0 ≤ i) (h4 : i < 4) : readP (sOf (keptL i (yOf x))) ((opL (kN (yOf x))).length : Nat) (7 + opK (yOf x)) = rdP (rdOf i x) := by
 unfold readP rdP rdOf
 have e : Txt.slice (restOf (sOf (keptL i (yOf x)))) (some (((opL (kN (yOf x))).length : Nat) : Int)) none = wordOf i (yOf x) := by
  rw [rest_eq, slice_drop]
  unfold restL
  rw [List.drop_left]
  have hp := place_ok (yOf x) h0 h4
  have el : letterOf i (yOf x) = sOf [97 + pN i (yOf x)] := by
   unfold letterOf pN
   rw [show (97 + placeOf i (yOf x)).toNat = 97 + (placeOf i (yOf x)).toNat by omega]
  unfold wordOf tailL
  rw [el]
  split
  · rfl
  · rw [show signOf (zOf (yOf x)) = sOf [(codeOf (zOf (yOf x))).toNat] from rfl, sOf_add]
 rw [e]
 rfl
theorem row_read (W : Wd C) (i x : Int) (h0 : 0 ≤ i) (h4 : i < 4) : PN C (k + 3) (.ref fn_q21) [.str (rowOf i x).2.2.2] (.fr (rdP (rdOf i x))) := by
 rw [← rd_eq i x h0 h4]
 have hy := y_nonneg x
 show PN C (k + 3) (.ref fn_q21) [.str (textOf i (yOf x))] _
 have hk := kept_eq h0 h4 hy
 obtain ⟨o1, o2, o3, o4⟩ := op_ok (y := yOf x)
 have kl : (keptL i (yOf x)).length ≤ 20 := by
  have := lead_length ((yOf x).toNat % 96)
  have := tail_len (y := yOf x)
  unfold keptL restL
  simp only [List.length_append, List.length_singleton]
  omega
 have o5 := opK_ok (yOf x)
 have nl := num_len (kN (yOf x)) k_lt.1
 rw [k_lt.2] at nl
 have mem : ∀ a : Int, a ∈ sizesOf (restOf (sOf (keptL i (yOf x)))) ↔ (a = 1 ∨ a = 2 ∨ a = 3) ∧ (exF (Txt.slice (restOf (sOf (keptL i (yOf x)))) none (some a))).isSome = true := by
  intro a
  unfold sizesOf inEx
  rw [List.mem_filter, ex_lookup, Option.isSome_map]
  simp
 refine read_spec W _ (sOf (keptL i (yOf x))) _ _ ?_ ?_ ?_ (by rw [sOf_len]; omega) ?_ ?_ ?_ ?_ ?_ (by omega)
 · rw [hk, join_map1]
 · rw [hk]
   refine joinOk_of _ (fun q hq => ?_) (by rw [List.length_map]; omega)
   obtain ⟨c, -, rfl⟩ := List.mem_map.mp hq
   exact (by decide : 1 ≤ 1000)
 · intro c hc hb
   rw [textOf_eq h0 h4 hy, sOf_cps] at hc
   have : c ∈ bareL i (yOf x) ++ tailL (yOf x) := by
    rw [← text_filter h0 h4]
    exact List.mem_filter.mpr ⟨hc, by rw [hb]; rfl⟩
   rw [List.mem_append] at this
   rcases this with hc | hc
   · obtain ⟨d, hd⟩ := bare_all h0 h4 c hc
     exact (plainC.of hd).2.2
   · exact (plainC.of (tail_plain c hc)).2.2
 · rw [textOf_eq h0 h4 hy, sOf_cps]
   have := text_len (y := yOf x) h0 h4
   omega
 · rw [mem, at_size]
   exact ⟨by omega, rfl⟩
 · intro a ha
   rw [mem] at ha
   obtain ⟨ha, hs⟩ := ha
   by_cases hlt : a ≤ ((opL (kN (yOf x))).length : Nat)
   · exact hlt
   · exfalso
     have := in_size (y := yOf x) h0 h4 a.toNat (by omega)
     rw [Int.toNat_of_nonneg (by omega)] at this
     rw [this] at hs
     cases hs
 · rw [ex_lookup, at_size]; rfl
 · have := Nat.log2_le_self (7 + opK (yOf x)).natAbs
   omega
end
section
variable {C : Cx} {k : Nat}
noncomputable def valE : Stmt → Expr
 | .Assign _ e _ => e
 | _ => default
noncomputable def compI : Expr → Expr
 | .ListComp _ (g :: _) _ _ => g.iter
 | _ => default
theorem Steps.ittA {α : Type} {elts : List Expr} {n : Nat} {pos : Pos} (g : α → List PV) (xs : List α) : Steps C (.Tuple elts n pos) (.itt (xs.map g)) (xs.map fun a => .tup (g a)) := by
 have := Steps.itt (C := C) (elts := elts) (n := n) (pos := pos) (xs := xs.map g)
 rwa [List.map_map] at this
theorem pick_take (xs : List PV) (n : Nat) : pickP xs none (some (n : Nat)) none = xs.take n := by
 have h : (sliceBounds none (some ((n : Nat) : Int)) none xs.length) = (0, ((min n xs.length : Nat) : Int), 1) := by
  unfold sliceBounds
  simp only [Option.getD_none, show (1 : Int) > 0 by decide, if_true, clip_eq n xs.length]
 unfold pickP
 rw [h]
 show (sliceRange 0 ((min n xs.length : Nat) : Int) 1).filterMap (xs[·]?) = _
 rw [idx_zero xs.length _ (Nat.min_le_right _ _), range_take, List.take_eq_take_iff]
 omega
noncomputable def fourOf (sc : List Int) : List Int := (sc.take 4 ++ [672, 79105, 866, 1770244]).take 4
theorem four_len (sc : List Int) : (fourOf sc).length = 4 := by
 unfold fourOf
 rw [List.length_take, List.length_append, List.length_take]
 simp
noncomputable def xOf (sc : List Int) (i : Nat) : Int := (fourOf sc).getD i 0
noncomputable def drOf (sc : List Int) (i : Nat) : RowT := rowOf (i : Nat) (xOf sc i)
noncomputable def drawnOf (sc : List Int) : List RowT := (List.range 4).map (drOf sc)
noncomputable def readsOf (sc : List Int) : List RdT := (List.range 4).map fun i => rdOf (i : Nat) (xOf sc i)
noncomputable abbrev drLoc (sc : List Int) : Loc := .fr (.lst ((drawnOf sc).map rowP))
theorem four_pairs (sc : List Int) : (((fourOf sc).map PV.int).zipIdx.map fun p => [PV.int (p.2 : Nat), p.1]) = (List.range 4).map fun (i : Nat) => [PV.int (i : Nat), PV.int (xOf sc i)] := by
 have h := four_len sc
 unfold xOf
 generalize fourOf sc = l at h
 cases l with
 | nil => cases h
 | cons a l =>
  obtain ⟨b, c, d, rfl⟩ := len3 (Nat.succ.inj h)
  rfl
theorem law_drawn (W : Wd C) (sc : List Int) (hsc : sc.length ≤ 100000) (L : Addr) {ρ : Rho} (h1 : ρ "script" = some (.fr (.lst (sc.map .int)))) :
 Ex C (k + 3) (callEnvC fd_law L fn_law) ρ (nthS (bodyOf st_law) 0) .next (upd ρ "drawn" (.ol ((drawnOf sc).map rowP))) := by
 have e : (drawnOf sc).map rowP = ((List.range 4).filter fun _ => true).map fun i => rowP (drOf sc i) := by
  rw [List.filter_eq_self.mpr (fun _ _ => rfl)]
  unfold drawnOf
  rw [List.map_map]
  rfl
 rw [e]
 have hit : EvIt C (k + 3) (callEnvC fd_law L fn_law) ρ (compI (valE (nthS (bodyOf st_law) 0))) (.itt ((List.range 4).map fun (i : Nat) => [PV.int (i : Nat), PV.int (xOf sc i)])) := by
  rw [← four_pairs]
  have ef : (fourOf sc).map PV.int = pickP (pickP (sc.map .int) none (some ((4 : Nat) : Int)) none ++ [.int 672, .int 79105, .int 866, .int 1770244]) none (some ((4 : Nat) : Int)) none := by
   rw [pick_take, pick_take]
   unfold fourOf
   rw [List.map_take, List.map_append, List.map_take]
   rfl
  have h4 : (pickP (sc.map .int) none (some ((4 : Nat) : Int)) none).length ≤ 4 := by rw [pick_take, List.length_take]; omega
  rw [ef]
  exact Ev.enumIt (Ev.b W rfl rfl) (Ev.freeze (Ev.sliceLT (Ev.freeze (Ev.binop (Ev.freeze (Ev.sliceL (Ev.name h1) .none (.some Ev.intC) .none (by decide) (by rw [List.length_map, sizeLine_eq]; omega))) (Ev.freeze (Ev.list (EvL.cons Ev.intC (EvL.cons Ev.intC (EvL.cons Ev.intC (EvL.cons Ev.intC EvL.nil)))))) (P2.addL (Nat.le_trans (Nat.add_le_add_right h4 4) (by rw [sizeLine_eq]; decide))))) .none (.some Ev.intC) .none (by decide) (by rw [List.length_append]; exact Nat.le_trans (Nat.add_le_add_right h4 4) (by rw [sizeLine_eq]; decide))))
 refine Ex.assign (Ev.comp hit (by rfl) Self.itt (fun Ca => ?_) (by rw [← e, List.length_map]; unfold drawnOf; rw [List.length_map, sizeLine_eq]; simp)) (by walk_at "st")
 refine CLoop.two (.inl rfl) (.inl rfl) (by decide) (fun (i : Nat) => PV.int (i : Nat)) (fun i => PV.int (xOf sc i)) (fun _ => true) (fun i => rowP (drOf sc i)) _ _ _ (Steps.ittA _ _) (fun _ _ => rfl) (fun p hp => TsF.nil) ?_
 intro i hi _
 have hi4 := List.mem_range.mp hi
 exact Ev.callG W (fd := fd_q23) (by walk_at "ev") (fun P => by kernel_rfl) (EvL.cons (Ev.name (uo (by decide) uq)) (EvL.cons (Ev.name uq) EvL.nil)) (row_spec W (i : Nat) (xOf sc i) (by omega) (by omega))
end
section
variable {C : Cx} {k : Nat}
theorem letters_val : (firstsL.all fun f => (List.range 26).all fun p => decide (32 ≤ f.toNat + p) && decide (f.toNat + p ≠ 127)) = true := by decide +kernel
theorem text_ok {i y : Int} (h0 : 0 ≤ i) (h4 : i < 4) (hy : 0 ≤ y) : okVal (textOf i y) := by
 rw [textOf_eq h0 h4 hy]
 have hb : ∀ c ∈ bareL i y, (32 ≤ c ∧ c ≠ 127) ∨ c = 9 := fun c hc => by
  unfold bareL at hc
  rw [List.mem_append, List.mem_append, List.mem_singleton] at hc
  rcases hc with hc | hc | rfl
  · have := lead_signs _ c hc; omega
  · have := op_ok.2.2.1 c hc; omega
  · have h1 := Int.fmod_nonneg_of_pos (y.fdiv 36864) (show (0 : Int) < 12 by decide)
    have h2 := Int.fmod_lt_of_pos (y.fdiv 36864) (show (0 : Int) < 12 by decide)
    have hf : firstOf y ∈ firstsL := by
     unfold firstOf
     rw [List.getD_eq_getElem?_getD, List.getElem?_eq_getElem (show ((y.fdiv 36864).fmod 12).toNat < firstsL.length by show _ < 12; omega)]
     exact List.getElem_mem _
    have := List.all_eq_true.mp (List.all_eq_true.mp letters_val _ hf) _ (List.mem_range.mpr (p_lt (y := y) h0 h4).1)
    simp only [Bool.and_eq_true, decide_eq_true_eq] at this
    exact .inl this
 have hc := code_ok (zOf y)
 intro c hm
 have hm : c ∈ textL i y := by simpa [sOf] using hm
 unfold textL at hm
 split at hm
 · rw [List.mem_append, List.mem_append, List.mem_singleton] at hm
   rcases hm with hm | rfl | hm
   · exact hb c (List.mem_of_mem_take hm)
   · left; omega
   · exact hb c (List.mem_of_mem_drop hm)
 · rw [List.mem_append, List.mem_singleton] at hm
   rcases hm with hm | rfl
   · exact hb c hm
   · left; omega
theorem textOf_len {i y : Int} (h0 : 0 ≤ i) (h4 : i < 4) (hy : 0 ≤ y) : (textOf i y).length ≤ 20 := by
 rw [textOf_eq h0 h4 hy, sOf_len]
 exact text_len h0 h4
noncomputable def pageOf (sc : List Int) : HdT := (List.range 4).map fun i => ("Row", (drOf sc i).2.2.2)
theorem row_low : lowS "Row" = lowS "rOW" := by decide +kernel
theorem row_lowOk : lowOk "Row" := by unfold lowOk; decide +kernel
theorem row_lowOk2 : lowOk "rOW" := by unfold lowOk; decide +kernel
theorem row_name : okName (lowS "rOW") := by
 have e : lowS "rOW" = sOf [114, 111, 119] := by decide +kernel
 rw [e]
 intro c hc
 simp at hc
 omega
theorem row_name2 : okName "Row" := by
 rw [ofString_sOf "Row" [82, 111, 119] rfl]
 intro c hc
 simp at hc
 omega
theorem page_get (sc : List Int) : getAllOf (pageOf sc) "rOW" = (List.range 4).map fun i => (drOf sc i).2.2.2 := by
 unfold getAllOf pageOf
 rw [List.filter_eq_self.mpr, List.map_map]
 · rfl
 · intro x hx
   obtain ⟨i, -, rfl⟩ := List.mem_map.mp hx
   show (lowS "Row" == lowS "rOW") = true
   rw [row_low]; simp
theorem law_page (W : Wd C) (sc : List Int) (L : Addr) :
 Ex C (k + 3) (callEnvC fd_law L fn_law) (ofL [("page", hdLoc []), ("drawn", drLoc sc)]) (nthS (bodyOf st_law) 2) .next (ofL [("page", hdLoc (pageOf sc)), ("drawn", drLoc sc)]) := by
 have e : pageOf sc = (List.range 4).foldl (fun acc i => acc ++ [(("Row" : Str), (drOf sc i).2.2.2)]) [] := by rw [foldl_snoc]; rfl
 rw [e]
 have ed : (drawnOf sc).map rowP = (List.range 4).map fun i => rowP (drOf sc i) := by unfold drawnOf; rw [List.map_map]; rfl
 refine Ex.forL (EvIt.of (p := .lst ((List.range 4).map fun i => rowP (drOf sc i))) (by rw [← ed]; exact Ev.name rfl) Iter.lst) (LoopL.foldA (fun i => rowP (drOf sc i)) (fun pg => ofL [("page", hdLoc pg), ("drawn", drLoc sc)]) _ (fun xs (pg : HdT) => (∀ i ∈ xs, i < 4) ∧ pg.length + xs.length ≤ 4) (List.range 4) _ [] Steps.name ⟨fun i h => List.mem_range.mp h, by simp⟩ ?_)
 rintro pg i xs ⟨hx, hl⟩
 simp only [List.length_cons] at hl
 have hi := hx i List.mem_cons_self
 refine ⟨⟨fun j hj => hx j (List.mem_cons_of_mem _ hj), by simp; omega⟩, _, As.name (by walk_at "st"), ?_⟩
 have hy := y_nonneg (xOf sc i)
 have hok : okVal (drOf sc i).2.2.2 := text_ok (by omega) (by omega) hy
 have hle : (drOf sc i).2.2.2.length ≤ 20 := textOf_len (by omega) (by omega) hy
 refine Exs.cons (Ex.addH W (n := "Row") (v := (drOf sc i).2.2.2) (q := none) rfl (fun a b => Ev.strC) (fun a b => ?_) row_name2 hok (by rw [show ("Row" : Str).length = 3 by decide +kernel]; omega) (by omega) (by omega)) (Exs.post (LeL.le ⟨rfl, rfl, trivial⟩) Exs.nil)
 exact Ev.item (a := .tup [.str (drOf sc i).1, .int (drOf sc i).2.1, .str (drOf sc i).2.2.1, .str (drOf sc i).2.2.2]) (Ev.name rfl) Ev.intC (Pidx.tup (j := 3) (by decide) (by decide) rfl rfl)
theorem reads_len (sc : List Int) : (readsOf sc).length = 4 := by unfold readsOf; simp
theorem reads_at (sc : List Int) {i : Nat} (h : i < 4) : rdAt (readsOf sc) i = rdOf (i : Nat) (xOf sc i) := by
 unfold rdAt readsOf
 rw [List.getD_eq_getElem?_getD, List.getElem?_map, List.getElem?_range h]
 rfl
theorem law_known (W : Wd C) (sc : List Int) {kn : HdT} (hp : ∀ k, PN C (k + 3) (.ref fn_q1) [.lst ((readsOf sc).map rdP)] (hdLoc kn)) (L : Addr) :
 Ex C (k + 3) (callEnvC fd_law L fn_law) (ofL [("page", hdLoc (pageOf sc)), ("drawn", drLoc sc)]) (nthS (bodyOf st_law) 3) .next (upd (ofL [("page", hdLoc (pageOf sc)), ("drawn", drLoc sc)]) "known" (hdLoc kn)) := by
 have e : (readsOf sc).map rdP = ((List.range 4).filter fun _ => true).map fun i => rdP (rdOf (i : Nat) (xOf sc i)) := by
  rw [List.filter_eq_self.mpr (fun _ _ => rfl)]
  unfold readsOf
  rw [List.map_map]
  rfl
 refine Ex.assign (Ev.callG W (fd := fd_q1) (by walk_at "ev") (fun P => by kernel_rfl) (EvL.cons (Ev.freeze (xs := (readsOf sc).map rdP) ?_) EvL.nil) (hp k)) (by walk_at "st")
 rw [e]
 refine Ev.comp (L := .itr ((List.range 4).map fun i => PV.str (drOf sc i).2.2.2)) (EvIt.of (p := .lst ((List.range 4).map fun i => PV.str (drOf sc i).2.2.2)) (Ev.freeze ?_) Iter.lst) (by rfl) Self.itr (fun Ca => ?_) (by rw [← e, List.length_map, reads_len, sizeLine_eq]; decide)
 · have e2 : ((List.range 4).map fun i => PV.str (drOf sc i).2.2.2) = (getAllOf (pageOf sc) "rOW").map .str := by rw [page_get, List.map_map]; rfl
   rw [e2]
   refine Ev.getAllH W (q := none) rfl Ev.strC (fun x hx => ?_) row_lowOk2 row_name (by unfold pageOf; simp)
   obtain ⟨i, -, rfl⟩ := List.mem_map.mp hx
   exact row_lowOk
 · refine CLoop.nameA (.inl rfl) (fun i => PV.str (drOf sc i).2.2.2) (fun _ => true) (fun (i : Nat) => rdP (rdOf (i : Nat) (xOf sc i))) _ _ _ Steps.name (fun _ => rfl) (fun p hp => TsF.nil) ?_
   intro i hi _
   have hi4 := List.mem_range.mp hi
   exact Ev.callG W (fd := fd_q21) (by walk_at "ev") (fun P => by kernel_rfl) (EvL.cons (Ev.name uq) EvL.nil) (row_read W (i : Nat) (xOf sc i) (by omega) (by omega))
noncomputable def colA (sc : List Int) (i : Nat) : List Int := colsOf (drOf sc i).1
noncomputable abbrev colLoc (sc : List Int) : Loc := .fr (.lst ((List.range 4).map fun i => .lst ((colA sc i).map .int)))
theorem law_cols (W : Wd C) (sc : List Int) (L : Addr) {ρ : Rho} (h1 : ρ "drawn" = some (drLoc sc)) :
 Ex C (k + 3) (callEnvC fd_law L fn_law) ρ (nthS (bodyOf st_law) 4) .next (upd ρ "columns" (.ol ((List.range 4).map fun i => .lst ((colA sc i).map .int)))) := by
 have e : ((List.range 4).map fun i => PV.lst ((colA sc i).map .int)) = ((List.range 4).filter fun _ => true).map fun i => .lst ((colA sc i).map .int) := by rw [List.filter_eq_self.mpr (fun _ _ => rfl)]
 have ed : (drawnOf sc).map rowP = (List.range 4).map fun i => rowP (drOf sc i) := by unfold drawnOf; rw [List.map_map]; rfl
 rw [e]
 refine Ex.assign (Ev.comp (L := .itr ((List.range 4).map fun i => rowP (drOf sc i))) (EvIt.of (p := .lst ((List.range 4).map fun i => rowP (drOf sc i))) (by rw [← ed]; exact Ev.name h1) Iter.lst) (by rfl) Self.itr (fun Ca => ?_) (by rw [← e, List.length_map, sizeLine_eq]; simp)) (by walk_at "st")
 refine CLoop.nameA (.inl rfl) (fun i => rowP (drOf sc i)) (fun _ => true) (fun i => .lst ((colA sc i).map .int)) _ _ _ Steps.name (fun _ => rfl) (fun p hp => TsF.nil) ?_
 intro i hi _
 have hi4 := List.mem_range.mp hi
 have hl : (drOf sc i).1.length ≤ 1000 := by
  have hy := y_nonneg (xOf sc i)
  have := lead_eq (yOf (xOf sc i)).toNat
  rw [Int.toNat_of_nonneg hy] at this
  show (leadOf (yOf (xOf sc i))).length ≤ 1000
  rw [this, sOf_len]
  have := lead_length ((yOf (xOf sc i)).toNat % 96)
  omega
 exact Ev.freeze (Ev.callG W (fd := fd_q13) (by walk_at "ev") (fun P => by kernel_rfl) (EvL.cons (Ev.item (a := .tup [.str (drOf sc i).1, .int (drOf sc i).2.1, .str (drOf sc i).2.2.1, .str (drOf sc i).2.2.2]) (Ev.name uq) Ev.intC (Pidx.tup (j := 0) (by decide) (by decide) rfl rfl)) EvL.nil) (columns_spec W (drOf sc i).1 hl))
end
section
variable {C : Cx} {k : Nat}
noncomputable def underC (cols : Nat → List Int) (i : Nat) : List Nat := (List.range i).filter fun j => colsLt (cols j) (cols i)
noncomputable def upAt (cols : Nat → List Int) (i : Nat) : Nat := (underC cols i).getLastD 4
noncomputable abbrev bodyU : List Stmt := forB (nthS (bodyOf st_law) 6)
theorem cols_at (sc : List Int) {j : Nat} (h : j < 4) : ((List.range 4).map fun i => PV.lst ((colA sc i).map .int))[((j : Nat) : Int).toNat]? = some (.lst ((colA sc j).map .int)) := by
 rw [Int.toNat_natCast, List.getElem?_map, List.getElem?_range h]
 rfl
theorem law_under (W : Wd C) (sc : List Int) {i : Nat} (hi : i < 4) (L : Addr) {ρ : Rho} (h1 : ρ "columns" = some (colLoc sc)) (h2 : ρ "i" = some (.fr (.int (i : Nat)))) :
 Ex C (k + 3) (callEnvC fd_law L fn_law) ρ (nthS bodyU 0) .next (upd ρ "under" (.ol (intsP (underC (colA sc) i)))) := by
 have e : intsP (underC (colA sc) i) = ((List.range i).filter fun j => colsLt (colA sc j) (colA sc i)).map fun (j : Nat) => PV.int (j : Nat) := rfl
 rw [e]
 refine Ex.assignComp (EvIt.range1 (b := (i : Nat)) (n := i) (Ev.b W rfl rfl) (Ev.name h2) (rangeSize_any _ _ _ (by omega)) (range_small _ _ (by omega) (by omega) (by omega) (by omega))) (by rfl) Self.itr (fun Ca => ?_) ?_ (by walk_at "st")
 · refine CLoop.nameA (.inl rfl) (fun (j : Nat) => PV.int (j : Nat)) (fun j => colsLt (colA sc j) (colA sc i)) (fun (j : Nat) => PV.int (j : Nat)) (List.range i) _ _ (by rw [range_ints]; exact Steps.name) (fun _ => rfl) ?_ (fun j hj _ => Ev.name uq)
   intro j hj
   have hj4 : j < 4 := by have := List.mem_range.mp hj; omega
   have eb : colsLt (colA sc j) (colA sc i) = (((colA sc j).zip (colA sc i)).map fun q => decide (q.1 < q.2)).all id := by
    unfold colsLt
    rw [List.all_map]
    rfl
   rw [eb]
   refine TsF.one (Ts.val (Ev.callB (Ev.b W rfl rfl) (EvL.cons (Ev.freeze (xs := (((colA sc j).zip (colA sc i)).map fun q => decide (q.1 < q.2)).map .bool) ?_) EvL.nil) PN.allB) Pt.bool)
   have e2 : (((colA sc j).zip (colA sc i)).map fun q => decide (q.1 < q.2)).map PV.bool = (((colA sc j).zip (colA sc i)).filter fun _ => true).map fun q => PV.bool (decide (q.1 < q.2)) := by
    rw [List.filter_eq_self.mpr (fun _ _ => rfl), List.map_map]
    rfl
   have ez : (((colA sc j).map PV.int).zip ((colA sc i).map PV.int)).map (fun p => [p.1, p.2]) = ((colA sc j).zip (colA sc i)).map fun q => [PV.int q.1, PV.int q.2] := by
    rw [List.zip_map, List.map_map]
    rfl
   have hcl : (colA sc j).length = 7 := by unfold colA colsOf; simp
   rw [e2]
   refine Ev.comp (L := .itt (((colA sc j).zip (colA sc i)).map fun q => [PV.int q.1, PV.int q.2])) (by rw [← ez]; exact Ev.zipIt (Ev.b W rfl rfl) (Ev.item (Ev.name (uo (by decide) (capt_of h1 rfl rfl))) (Ev.name uq) (Pidx.lst (by omega) (by omega) (cols_at sc hj4))) (Ev.item (Ev.name (uo (by decide) (capt_of h1 rfl rfl))) (Ev.name (uo (by decide) (capt_of h2 rfl rfl))) (Pidx.lst (by omega) (by omega) (cols_at sc hi)))) (by rfl) Self.itt (fun Ca => ?_) (by rw [← e2, List.length_map, List.length_map, List.length_zip, hcl, sizeLine_eq]; omega)
   refine CLoop.two (.inl rfl) (.inl rfl) (by decide) (fun (q : Int × Int) => PV.int q.1) (fun q => PV.int q.2) (fun _ => true) (fun q => PV.bool (decide (q.1 < q.2))) _ _ _ (Steps.ittA _ _) (fun _ _ => rfl) (fun p hp => TsF.nil) ?_
   intro q hq _
   exact Ev.compare1 (Ev.name (uo (by decide) uq)) (Ev.name uq) P2.ltI
 · have h3 := List.length_filter_le (fun j => colsLt (colA sc j) (colA sc i)) (List.range i)
   rw [List.length_range] at h3
   rw [List.length_map, sizeLine_eq]
   omega
theorem last_at4 (u : List Nat) (h : u ≠ []) : (intsP u)[(((intsP u).length : Int) + (-1)).toNat]? = some (.int ((u.getLastD 4 : Nat) : Int)) := by
 rw [last_at u h, List.getLastD_eq_getLast?, List.getLastD_eq_getLast?, List.getLast?_eq_some_getLast h]
 rfl
noncomputable def upL (sc : List Int) : List Nat := (List.range 4).map (upAt (colA sc))
theorem law_up (W : Wd C) (sc : List Int) (kn : HdT) (L : Addr) :
 Ex C (k + 3) (callEnvC fd_law L fn_law) (ofL [("up", .ol []), ("drawn", drLoc sc), ("known", hdLoc kn), ("columns", colLoc sc)]) (nthS (bodyOf st_law) 6) .next (ofL [("up", .ol (intsP (upL sc))), ("drawn", drLoc sc), ("known", hdLoc kn), ("columns", colLoc sc)]) := by
 have e : intsP (upL sc) = (List.range 4).foldl (fun acc i => acc ++ [PV.int ((upAt (colA sc) i : Nat) : Int)]) [] := by
  rw [foldl_snoc]
  unfold upL intsP
  rw [List.map_map]
  rfl
 rw [e]
 refine Ex.forL (EvIt.range1 (b := 4) (n := 4) (by walk_at "ev") (by walk_at "ev") (by rfl) (by rfl)) ?_
 rw [range_ints]
 refine LoopL.foldA (fun (i : Nat) => PV.int (i : Nat)) (fun u => ofL [("up", .ol u), ("drawn", drLoc sc), ("known", hdLoc kn), ("columns", colLoc sc)]) _ (fun xs (u : List PV) => (∀ i ∈ xs, i < 4) ∧ u.length + xs.length ≤ 4) (List.range 4) _ [] Steps.name ⟨fun i h => List.mem_range.mp h, by simp⟩ ?_
 rintro u i xs ⟨hx, hl⟩
 simp only [List.length_cons] at hl
 have hi := hx i List.mem_cons_self
 refine ⟨⟨fun j hj => hx j (List.mem_cons_of_mem _ hj), by simp; omega⟩, _, As.name (by walk_at "st"), ?_⟩
 refine Exs.cons (law_under W sc hi L rfl rfl) (Exs.freeze (x := "under") (l' := .fr (.lst (intsP (underC (colA sc) i)))) rfl rfl ?_)
 refine Exs.cons (Ex.append (xs := u) rfl (fun b => ?_) (by rw [sizeLine_eq]; omega)) (Exs.post (LeL.le ⟨rfl, rfl, rfl, rfl, trivial⟩) Exs.nil)
 refine Ev.ifExp (b := !(intsP (underC (colA sc) i)).isEmpty) (Ts.compare1 (Ev.name rfl) (Ev.freeze (Ev.list EvL.nil)) P2.neNil Pt.bool) (fun q => ?_) (fun q => ?_)
 · have hne : (underC (colA sc) i).isEmpty = false := by simpa [intsP] using q
   have hu0 : underC (colA sc) i ≠ [] := fun q => by rw [q] at hne; cases hne
   have hp := List.length_pos_iff.mpr hu0
   exact Ev.item (Ev.name rfl) (Ev.neg Ev.intC) (Pidx.lstNeg (by decide) (by decide) (by rw [List.length_map]; omega) (last_at4 _ hu0))
 · have hne : (underC (colA sc) i).isEmpty = true := by simpa [intsP] using q
   have hu0 : underC (colA sc) i = [] := List.isEmpty_iff.mp hne
   have : upAt (colA sc) i = 4 := by unfold upAt; rw [hu0]; rfl
   rw [this]
   exact Ev.intC
end
section
variable {C : Cx} {k : Nat}
noncomputable def testE : Stmt → Expr
 | .If t _ _ _ => t
 | _ => default
noncomputable abbrev bodyM : List Stmt := forB (nthS (bodyOf st_law) 7)
noncomputable abbrev baseL (sc : List Int) (kn : HdT) : List (Str × Loc) := [("drawn", drLoc sc), ("known", hdLoc kn), ("up", .fr (.lst (intsP (upL sc))))]
theorem law_here (W : Wd C) (m : Nat) (hm : m < 16) (L : Addr) {ρ : Rho} (h1 : ρ "mask" = some (.fr (.int (m : Nat)))) :
 Ex C (k + 3) (callEnvC fd_law L fn_law) ρ (nthS bodyM 0) .next (upd ρ "here" (.ol (intsP (hereOf m)))) := by
 have e : intsP (hereOf m) = ((List.range 4).filter fun i => m.testBit i).map fun (j : Nat) => PV.int (j : Nat) := rfl
 rw [e]
 refine Ex.assign (Ev.comp (EvIt.range1 (b := 4) (n := 4) (by walk_at "ev") (by walk_at "ev") (by rfl) (by rfl)) (by rfl) Self.itr (fun Ca => ?_) ?_) (by walk_at "st")
 · refine CLoop.nameA (.inl rfl) (fun (j : Nat) => PV.int (j : Nat)) (fun i => m.testBit i) (fun (j : Nat) => PV.int (j : Nat)) (List.range 4) _ _ (by rw [range_ints]; exact Steps.name) (fun _ => rfl) ?_ (fun j hj _ => Ev.name uq)
   intro j hj
   rw [List.mem_range] at hj
   rw [← bit_keep m hm j hj]
   exact TsF.one (Ts.val (Ev.binop (Ev.binop (Ev.name (uo (by decide) (capt_of h1 rfl rfl))) (Ev.name uq) (P2.rshI (Int.natCast_nonneg j))) Ev.intC P2.andI) Pt.int)
 · rw [← e, List.length_map, sizeLine_eq]
   have := here_len m
   omega
theorem up_len (sc : List Int) : (upL sc).length = 4 := by unfold upL; simp
theorem up_at (sc : List Int) {i : Nat} (h : i < 4) : (intsP (upL sc))[((i : Nat) : Int).toNat]? = some (.int (((upL sc).getD i 4 : Nat) : Int)) := by
 rw [Int.toNat_natCast, List.getElem?_map, getD_lt (d := 4) (by rw [up_len]; exact h)]
 rfl
theorem any_any (s : List Nat) (i : Nat) : (s.map fun (j : Nat) => (j : Int)).any (· == ((i : Nat) : Int)) = s.contains i := any_ints s i
theorem law_closed (W : Wd C) (sc : List Int) (s : List Nat) (hs : ∀ i ∈ s, i < 4) (hsl : s.length ≤ 4) (L : Addr) {ρ : Rho} (h1 : ρ "up" = some (.fr (.lst (intsP (upL sc))))) (h2 : ρ "here" = some (.fr (.lst (intsP s)))) :
 Ts C (k + 3) (callEnvC fd_law L fn_law) ρ (testE (nthS bodyM 1)) (closedU (upL sc) s) := by
 have eb : closedU (upL sc) s = (s.map fun i => (upL sc).getD i 4 == 4 || s.contains ((upL sc).getD i 4)).all id := by
  unfold closedU
  rw [List.all_map]
  rfl
 rw [eb]
 have e2 : (s.map fun i => (upL sc).getD i 4 == 4 || s.contains ((upL sc).getD i 4)).map PV.bool = (s.filter fun _ => true).map fun i => PV.bool ((upL sc).getD i 4 == 4 || s.contains ((upL sc).getD i 4)) := by
  rw [List.filter_eq_self.mpr (fun _ _ => rfl), List.map_map]
  rfl
 refine Ts.val (Ev.callB (Ev.b W rfl rfl) (EvL.cons (Ev.freeze (xs := (s.map fun i => (upL sc).getD i 4 == 4 || s.contains ((upL sc).getD i 4)).map .bool) ?_) EvL.nil) PN.allB) Pt.bool
 rw [e2]
 refine Ev.comp (L := .itr (intsP s)) (EvIt.of (Ev.name h2) Iter.lst) (by rfl) Self.itr (fun Ca => ?_) (by rw [← e2, List.length_map, List.length_map, sizeLine_eq]; omega)
 refine CLoop.nameA (.inl rfl) (fun (j : Nat) => PV.int (j : Nat)) (fun _ => true) (fun i => PV.bool ((upL sc).getD i 4 == 4 || s.contains ((upL sc).getD i 4))) s _ _ Steps.name (fun _ => rfl) (fun p hp => TsF.nil) ?_
 intro i hi _
 have hi4 := hs i hi
 have item : ∀ p1 p2 p3 x, Ev C (k + 3) (compEnvL x Ca (callEnvC fd_law L fn_law)) (upd (capt x (callEnvC fd_law L fn_law) ρ) "i" (.fr (.int (i : Nat)))) (.Subscript (.Name "up" p1) (.Name "i" p2) p3) (.fr (.int (((upL sc).getD i 4 : Nat) : Int))) → True := fun _ _ _ _ _ => trivial
 have e3 : ((upL sc).getD i 4 == 4) = ((((upL sc).getD i 4 : Nat) : Int) == 4) := by
  rw [Bool.eq_iff_iff, beq_iff_eq, beq_iff_eq]; omega
 rw [e3]
 refine Ev.orB (Ev.compare1 (Ev.item (Ev.name (uo (by decide) (capt_of h1 rfl rfl))) (Ev.name uq) (Pidx.lst (by omega) (by omega) (up_at sc hi4))) Ev.intC P2.eqI) (fun _ => ?_)
 rw [← any_any, ]
 refine Ev.compare1 (Ev.item (Ev.name (uo (by decide) (capt_of h1 rfl rfl))) (Ev.name uq) (Pidx.lst (by omega) (by omega) (up_at sc hi4))) (Ev.name (uo (by decide) (capt_of h2 rfl rfl))) ?_
 rw [ints_ints]
 exact P2.inI
noncomputable abbrev wlD (sc : List Int) : Nat → List Nat := wlOf (readsOf sc)
theorem drawn_at (sc : List Int) {j : Nat} (h : j < 4) : ((drawnOf sc).map rowP)[((j : Nat) : Int).toNat]? = some (PV.tup [.str (drOf sc j).1, .int (drOf sc j).2.1, .str (drOf sc j).2.2.1, .str (drOf sc j).2.2.2]) := by
 rw [Int.toNat_natCast]
 unfold drawnOf
 rw [List.map_map, List.getElem?_map, List.getElem?_range h]
 rfl
theorem word_at (sc : List Int) {j : Nat} (h : j < 4) : (rdAt (readsOf sc) j).2.2 = (drOf sc j).2.2.1 := by rw [reads_at sc h]; rfl
theorem law_test (W : Wd C) (sc : List Int) (kn : HdT) (O : WordsOk (wlD sc)) (hlow : ∀ x ∈ kn, lowOk x.1) (s : List Nat) (hs : ∀ i ∈ s, i < 4) (hsl : s.length ≤ 4) (w : Int)
 (hw : ∀ k, PN C (k + 1) (.ref fn_q19) [.lst (intsP s), .lst ((drawnOf sc).map rowP), .lst (intsP (upL sc))] (.fr (.int w))) (hg : getOf kn (sOf (preA ++ nmL (wlD sc) s)) = some (sOf (verdL (dueOf w)))) (L : Addr) {v : PV} :
 Exs C (k + 3) (callEnvC fd_law L fn_law) (ofL (("here", .fr (.lst (intsP s))) :: ("mask", .fr v) :: baseL sc kn)) (forB (nthS bodyM 1)) .next (ofL (baseL sc kn)) := by
 have hn1 := O.nmLen hs
 have hgd := O.goodP (p := preA) (.inl rfl) hs
 refine Exs.cons (Ex.assign (Ev.callG W (fd := fd_q19) (by walk_at "ev") (fun P => by kernel_rfl) (EvL.cons (Ev.name rfl) (EvL.cons (Ev.name rfl) (EvL.cons (Ev.name rfl) EvL.nil))) (hw _)) (by walk_at "st")) ?_
 refine Exs.cons (Ex.assign (l := .fr (.str (sOf (verdL (dueOf w))))) ?_ (by walk_at "st")) ?_
 · refine Ev.ifExp (b := decide (0 < w)) (Ts.compare1 (Ev.name rfl) Ev.intC P2.gtI Pt.bool) (fun h => ?_) (fun h => Ev.ifExp (b := decide (w < 0)) (Ts.compare1 (Ev.name rfl) Ev.intC P2.ltI Pt.bool) (fun h2 => ?_) (fun h2 => ?_))
   · have e : dueOf w = 1 := by unfold dueOf; rw [if_pos (of_decide_eq_true h)]
     rw [e, ← ofString_sOf ">" (verdL 1) rfl]
     exact Ev.strC
   · have e : dueOf w = 2 := by unfold dueOf; rw [if_neg (of_decide_eq_false h), if_pos (of_decide_eq_true h2)]
     rw [e, ← ofString_sOf "<" (verdL 2) rfl]
     exact Ev.strC
   · have e : dueOf w = 0 := by unfold dueOf; rw [if_neg (of_decide_eq_false h), if_neg (of_decide_eq_false h2)]
     rw [e, ← ofString_sOf "==" (verdL 0) rfl]
     exact Ev.strC
 refine Exs.cons (ρ' := ofL (baseL sc kn)) (Ex.ite (b := false) (o := .next) ?_ (fun h => by cases h) (fun _ => Exs.post (LeL.le ⟨rfl, rfl, rfl, trivial⟩) Exs.nil)) (Exs.post .refl Exs.nil)
 have er : (sOf (verdL (dueOf w)) != sOf (verdL (dueOf w))) = false := by simp
 rw [← er]
 refine Ts.compare1 (a := .str (sOf (verdL (dueOf w)))) (b := .str (sOf (verdL (dueOf w)))) ?_ (Ev.name rfl) P2.neS Pt.bool
 have ee : Loc.fr (.str (sOf (verdL (dueOf w)))) = .fr (match getOf kn (sOf (preA ++ nmL (wlD sc) s)) with | some v => .str v | none => .none) := by rw [hg]
 rw [ee]
 refine Ev.getH W (q := none) rfl ?_ hlow (hgd.lowOk (by rw [List.length_append]; simp; omega)) hgd.nameLow
 rw [← pp_app]
 have en : sOf (nmL (wlD sc) s) = Txt.join "" (s.map fun i => (rdAt (readsOf sc) i).2.2) := (names_flat _ _).symm
 have hl1 : (sOf (nmL (wlD sc) s)).length ≤ 40 := by rw [sOf_len]; omega
 rw [en] at hl1 ⊢
 refine Ev.binop Ev.strC (Ev.join Ev.strC (Ev.freeze ?_) (names_ok O hs hsl)) (P2.addS (by rw [show ("Pp" : Str).length = 2 by decide +kernel, sizeLine_eq]; omega))
 have e2 : (s.map fun i => (rdAt (readsOf sc) i).2.2).map PV.str = (s.filter fun _ => true).map fun i => PV.str (rdAt (readsOf sc) i).2.2 := by
  rw [List.filter_eq_self.mpr (fun _ _ => rfl), List.map_map]
  rfl
 rw [e2]
 refine Ev.comp (L := .itr (intsP s)) (EvIt.of (Ev.name rfl) Iter.lst) (by rfl) Self.itr (fun Ca => ?_) (by rw [← e2, List.length_map, List.length_map, sizeLine_eq]; omega)
 refine CLoop.nameA (.inl rfl) (fun (j : Nat) => PV.int (j : Nat)) (fun _ => true) (fun i => PV.str (rdAt (readsOf sc) i).2.2) s _ _ Steps.name (fun _ => rfl) (fun p hp => TsF.nil) ?_
 intro i hi _
 have hi4 := hs i hi
 rw [word_at sc hi4]
 exact Ev.item (Ev.item (Ev.name (uo (by decide) (capt_of (p := .lst ((drawnOf sc).map rowP)) rfl rfl rfl))) (Ev.name uq) (Pidx.lst (by omega) (by omega) (drawn_at sc hi4))) Ev.intC (Pidx.tup (j := 2) (by decide) (by decide) rfl rfl)
end
section
theorem wsGo_b : ∀ (cs : List Nat) (count : List Int) (b n nt : Nat), (wsGo cs count b n nt).2.1 ≤ b + cs.length
 | [], count, b, n, nt => Nat.le_refl _
 | c :: r, count, b, n, nt => by
  unfold wsGo
  rw [List.length_cons]
  split
  · have := wsGo_b r count (b + 1) (n + 1) nt; omega
  · split
    · have := wsGo_b r (bump count b) 0 (n + 1) (nt + 1); omega
    · show b ≤ _; omega
theorem kept_len (i y : Int) : (keptL i y).length ≤ 20 := by
 have := lead_length (y.toNat % 96)
 have := tail_len (y := y)
 have := (op_ok (y := y)).2.1
 unfold keptL restL
 simp only [List.length_append, List.length_singleton]
 omega
theorem reads_fit (sc : List Int) : fitsR (readsOf sc) := by
 intro r hr
 obtain ⟨i, hi, rfl⟩ := List.mem_map.mp hr
 have hk := kept_len (i : Nat) (yOf (xOf sc i))
 show (wsOf (sOf (keptL (i : Nat) (yOf (xOf sc i))))).1.length ≤ 1001 ∧ (wsOf (sOf (keptL (i : Nat) (yOf (xOf sc i))))).2.1 ≤ 1000
 unfold wsOf
 rw [sOf_cps]
 exact ⟨wsGo_len _ _ _ _ _ (by omega) (by simp), Nat.le_trans (wsGo_b _ _ _ _ _) (by omega)⟩
noncomputable def numL (k : Nat) : List Nat := (Str.ofString (toString (7 + (k : Int)))).cps.toList
theorem num_facts : ((List.range 48).all fun k => decide ((numL k).length ≤ 2) && (numL k).all fun c => gch c && !isLet c) = true := by decide +kernel
theorem vis_facts : (visL.all fun c => gch c && !isLet c) = true := by decide +kernel
theorem let_good : ∀ p < 26, gch (97 + p) = true := by decide +kernel
theorem word_eq {i y : Int} (h0 : 0 ≤ i) (h4 : i < 4) : wordOf i y = sOf ([97 + pN i y] ++ tailL y) := by
 have hp := place_ok y h0 h4
 have el : letterOf i y = sOf [97 + pN i y] := by
  unfold letterOf pN
  rw [show (97 + placeOf i y).toNat = 97 + (placeOf i y).toNat by omega]
 unfold wordOf tailL
 rw [el]
 split
 · rfl
 · rw [show signOf (zOf y) = sOf [(codeOf (zOf y)).toNat] from rfl, sOf_add]
theorem wl_eq (sc : List Int) {i : Nat} (h : i < 4) : wlD sc i = [97 + pN (i : Nat) (yOf (xOf sc i))] ++ (tailL (yOf (xOf sc i)) ++ numL (kN (yOf (xOf sc i)))) := by
 show (rdAt (readsOf sc) i).2.2.cps.toList = _
 rw [reads_at sc h]
 show (wordOf (i : Nat) (yOf (xOf sc i)) ++ Str.ofString (toString (7 + opK (yOf (xOf sc i))))).cps.toList = _
 rw [word_eq (by omega) (by omega), show Str.ofString (toString (7 + opK (yOf (xOf sc i)))) = sOf (numL (kN (yOf (xOf sc i)))) by unfold numL; rw [k_lt.2, sOf_eta], sOf_add, sOf_cps]
 simp only [List.append_assoc]
theorem words_ok (sc : List Int) : WordsOk (wlD sc) := by
 have nf := fun (i : Nat) => List.all_eq_true.mp num_facts (kN (yOf (xOf sc i))) (List.mem_range.mpr k_lt.1)
 simp only [Bool.and_eq_true, decide_eq_true_eq, List.all_eq_true, Bool.not_eq_true'] at nf
 have vf : ∀ (i : Nat), ∀ c ∈ tailL (yOf (xOf sc i)), gch c = true ∧ isLet c = false := fun i c hc => by
  have := List.all_eq_true.mp vis_facts c (tail_vis c hc)
  simpa using this
 have hp : ∀ i : Nat, i < 4 → pN (i : Nat) (yOf (xOf sc i)) < 26 ∧ 6 * i ≤ pN (i : Nat) (yOf (xOf sc i)) ∧ ((i : Int) < 3 → pN (i : Nat) (yOf (xOf sc i)) < 6 * i + 6) := fun i hi => by
  have := p_lt (i := (i : Nat)) (y := yOf (xOf sc i)) (by omega) (by omega)
  simpa using this
 refine ⟨fun i hi => ?_, fun i hi c hc => ?_, fun i hi => ?_⟩
 · rw [wl_eq sc hi]
   have := tail_len (y := yOf (xOf sc i))
   have := (nf i).1
   simp only [List.length_append, List.length_singleton]
   omega
 · rw [wl_eq sc hi, List.mem_append, List.mem_append, List.mem_singleton] at hc
   rcases hc with rfl | hc | hc
   · exact let_good _ (hp i hi).1
   · exact (vf i c hc).1
   · exact ((nf i).2 c hc).1
 · rw [wl_eq sc hi, List.filter_append, List.filter_append]
   have e1 : (tailL (yOf (xOf sc i))).filter isLet = [] := by
    rw [List.filter_eq_nil_iff]
    intro c hc
    rw [(vf i c hc).2]; decide
   have e2 : (numL (kN (yOf (xOf sc i)))).filter isLet = [] := by
    rw [List.filter_eq_nil_iff]
    intro c hc
    rw [((nf i).2 c hc).2]; decide
   have h3 := hp i hi
   have e3 : isLet (97 + pN (i : Nat) (yOf (xOf sc i))) = true := by
    unfold isLet
    simp; omega
   rw [e1, e2, List.append_nil, List.append_nil, show ([97 + pN (i : Nat) (yOf (xOf sc i))] : List Nat).filter isLet = [97 + pN (i : Nat) (yOf (xOf sc i))] by simp [e3]]
   show [letIx (97 + pN (i : Nat) (yOf (xOf sc i)))] = [i]
   congr 1
   unfold letIx
   omega
theorem less_eq (sc : List Int) {i j : Nat} (hi : i < 4) (hj : j < 4) : lessOf (wsOf (rdAt (readsOf sc) j).1) (wsOf (rdAt (readsOf sc) i).1) = colsLt (colA sc j) (colA sc i) := by
 rw [reads_at sc hi, reads_at sc hj]
 show lessOf (wsOf (sOf (keptL (j : Nat) (yOf (xOf sc j))))) (wsOf (sOf (keptL (i : Nat) (yOf (xOf sc i))))) = _
 rw [ws_kept.1, ws_kept.1]
 have hl : ∀ i, (drOf sc i).1 = sOf (leadN ((yOf (xOf sc i)).toNat % 96)) := fun i => by
  have := lead_eq (yOf (xOf sc i)).toNat
  rwa [Int.toNat_of_nonneg (y_nonneg _)] at this
 unfold colA
 rw [hl, hl]
 have := List.all_eq_true.mp (List.all_eq_true.mp less_all ((yOf (xOf sc j)).toNat % 96) (List.mem_range.mpr (Nat.mod_lt _ (by decide)))) ((yOf (xOf sc i)).toNat % 96) (List.mem_range.mpr (Nat.mod_lt _ (by decide)))
 exact eq_of_beq this
theorem under_eq (sc : List Int) {i : Nat} (hi : i < 4) : underOf (readsOf sc) i = underC (colA sc) i := by
 unfold underOf underC
 apply List.filter_congr
 intro j hj
 exact less_eq sc hi (by have := List.mem_range.mp hj; omega)
theorem up_get (sc : List Int) {i : Nat} (hi : i < 4) : (upL sc).getD i 4 = upAt (colA sc) i := by
 unfold upL
 rw [List.getD_eq_getElem?_getD, List.getElem?_map, List.getElem?_range hi]
 rfl
theorem upAt_cases (cols : Nat → List Int) (i : Nat) (hi : i ≤ 4) : upAt cols i = 4 ∧ underC cols i = [] ∨ upAt cols i < i ∧ upAt cols i = (underC cols i).getLastD 0 ∧ underC cols i ≠ [] := by
 by_cases h : underC cols i = []
 · exact .inl ⟨by unfold upAt; rw [h]; rfl, h⟩
 · right
   have e : upAt cols i = (underC cols i).getLast h := by unfold upAt; rw [List.getLastD_eq_getLast?, List.getLast?_eq_some_getLast h]; rfl
   have hm := List.getLast_mem h
   unfold underC at hm
   have := List.mem_range.mp (List.mem_filter.mp hm).1
   refine ⟨by rw [e]; exact this, ?_, h⟩
   rw [e, List.getLastD_eq_getLast?, List.getLast?_eq_some_getLast h]; rfl
theorem chains_eq (sc : List Int) : chainsOf (readsOf sc) = chU (upL sc) := by
 unfold chainsOf chU
 have : ∀ (xs : List Nat) (cs : List (List Nat)), (∀ i ∈ xs, i < 4) → xs.foldl (chainStep (readsOf sc)) cs = xs.foldl (fun cs i => cs ++ [[i] ++ (if (upL sc).getD i 4 = 4 then [] else cs.getD ((upL sc).getD i 4) [])]) cs := by
  intro xs
  induction xs with
  | nil => intro cs _; rfl
  | cons i r ih =>
   intro cs h
   have hi := h i List.mem_cons_self
   rw [List.foldl_cons, List.foldl_cons, ih _ fun j hj => h j (List.mem_cons_of_mem _ hj)]
   congr 1
   unfold chainStep
   rw [under_eq sc hi, up_get sc hi]
   congr 3
   rcases upAt_cases (colA sc) i (by omega) with ⟨a, b⟩ | ⟨a, b, c⟩
   · rw [a, b]; rfl
   · rw [if_neg (by simp [c]), if_neg (by omega), b]
 exact this _ _ fun i hi => List.mem_range.mp hi
theorem up_form (sc : List Int) : ∃ u1 ∈ ([4, 0] : List Nat), ∃ u2 ∈ ([4, 0, 1] : List Nat), ∃ u3 ∈ ([4, 0, 1, 2] : List Nat), upL sc = [4, u1, u2, u3] := by
 have h0 := upAt_cases (colA sc) 0 (by decide)
 have h1 := upAt_cases (colA sc) 1 (by decide)
 have h2 := upAt_cases (colA sc) 2 (by decide)
 have h3 := upAt_cases (colA sc) 3 (by decide)
 have less : ∀ {u i : Nat} {P Q R : Prop}, u = 4 ∧ P ∨ u < i ∧ Q ∧ R → u = 4 ∨ u < i := fun h => h.imp (·.1) (·.1)
 refine ⟨upAt (colA sc) 1, ?_, upAt (colA sc) 2, ?_, upAt (colA sc) 3, ?_, ?_⟩
 · rcases less h1 with h | h
   · rw [h]; decide
   · rw [Nat.lt_one_iff.mp h]; decide
 · rcases less h2 with h | h
   · rw [h]; decide
   · generalize upAt (colA sc) 2 = u at h
     revert u
     decide
 · rcases less h3 with h | h
   · rw [h]; decide
   · generalize upAt (colA sc) 3 = u at h
     revert u
     decide
 · have : upAt (colA sc) 0 = 4 := (less h0).resolve_right (Nat.not_lt_zero _)
   unfold upL
   rw [← this]
   rfl
noncomputable def bitsN (par : Nat → Bool) : Nat := (if par 0 then 1 else 0) + ((if par 1 then 2 else 0) + ((if par 2 then 4 else 0) + (if par 3 then 8 else 0)))
theorem bits_ok (par : Nat → Bool) : bitsN par < 16 ∧ ∀ i < 4, (bitsN par).testBit i = par i := by
 unfold bitsN
 refine ⟨by split <;> split <;> split <;> split <;> decide, fun i hi => ?_⟩
 have h : ∀ a b c d : Bool, ∀ i < 4, ((if a then 1 else 0) + ((if b then 2 else 0) + ((if c then 4 else 0) + (if d then 8 else 0))) : Nat).testBit i = [a, b, c, d].getD i false := by decide +kernel
 have := h (par 0) (par 1) (par 2) (par 3) i hi
 rw [this]
 rcases lt4 i hi with rfl | rfl | rfl | rfl <;> rfl
theorem val_congr {par par' : Nat → Bool} (h : ∀ i < 4, par i = par' i) (ch : List (List Nat)) (t : List Nat) : valOf par ch t = valOf par' ch t := by
 have : wonOf par ch t = wonOf par' ch t := by
  unfold wonOf
  have e : (hereOf t.length).filter (winOf par ch t) = (hereOf t.length).filter (winOf par' ch t) := by
   apply List.filter_congr
   intro i hi
   unfold winOf
   rw [h i (here_lt hi)]
  rw [e]
  apply List.map_congr_left
  intro i hi
  rw [h i (here_lt (List.mem_filter.mp hi).1)]
 unfold valOf
 rw [this]
theorem tab_congr {par par' : Nat → Bool} (h : ∀ i < 4, par i = par' i) (ch : List (List Nat)) : ∀ n, tabOf par ch n = tabOf par' ch n
 | 0 => rfl
 | n + 1 => by rw [tabOf, tabOf, tab_congr h ch n, val_congr h]
theorem worth_congr {rows rows' : List RowT} (up : List Nat) (h : ∀ i < 4, ((rows[i]?.map fun (r : RowT) => r.2.1).getD 0).fmod 2 = ((rows'[i]?.map fun (r : RowT) => r.2.1).getD 0).fmod 2) (s : List Nat) (hs : ∀ i ∈ s, i < 4) : worthOf s rows up = worthOf s rows' up := by
 have : ∀ (xs : List Nat) (on : List Int), (∀ i ∈ xs, i < 4) → xs.foldl (fun on i => worthStep rows up on i) on = xs.foldl (fun on i => worthStep rows' up on i) on := by
  intro xs
  induction xs with
  | nil => intro on _; rfl
  | cons i r ih =>
   intro on hx
   rw [List.foldl_cons, List.foldl_cons, ih _ fun j hj => hx j (List.mem_cons_of_mem _ hj)]
   congr 1
   unfold worthStep
   rw [h i (hx i List.mem_cons_self)]
 unfold worthOf
 rw [this _ _ fun i hi => hs i (List.mem_reverse.mp hi)]
theorem num_eq (sc : List Int) {i : Nat} (h : i < 4) : (rdAt (readsOf sc) i).2.1 = (drOf sc i).2.1 := by rw [reads_at sc h]; rfl
theorem law_plain (sc : List Int) (m : Nat) (hm : m < 16) (hc : closedU (upL sc) (hereOf m) = true) :
 getOf (knownL (wlD sc) (tabOf (parOf (readsOf sc)) (chainsOf (readsOf sc)) 16)) (sOf (preA ++ nmL (wlD sc) (hereOf m))) = some (sOf (verdL (dueOf (worthOf (hereOf m) (drawnOf sc) (upL sc))))) := by
 obtain ⟨p1, p2⟩ := bits_ok (parOf (readsOf sc))
 rw [(words_ok sc).getK (.inl rfl) (by rw [tab_len]; decide) (by rw [tab_len]; exact hm), chains_eq, tab_congr (fun i hi => (p2 i hi).symm)]
 have hw : worthOf (hereOf m) (drawnOf sc) (upL sc) = worthOf (hereOf m) (rowsQ (bitsN (parOf (readsOf sc)))) (upL sc) := by
  refine worth_congr _ (fun i hi => ?_) _ fun i hi => here_lt hi
  unfold drawnOf rowsQ
  rw [List.getElem?_map, List.getElem?_map, List.getElem?_range hi]
  simp only [Option.map_some, Option.getD_some]
  rw [p2 i hi, ← num_eq sc hi]
  have h1 := Int.fmod_nonneg_of_pos (rdAt (readsOf sc) i).2.1 (show (0 : Int) < 2 by decide)
  have h2 := Int.fmod_lt_of_pos (rdAt (readsOf sc) i).2.1 (show (0 : Int) < 2 by decide)
  unfold parOf
  have e : (rdAt (readsOf sc) i).2.1.fmod 2 = 0 ∨ (rdAt (readsOf sc) i).2.1.fmod 2 = 1 := by omega
  rcases e with e | e <;> rw [e] <;> decide
 rw [hw]
 obtain ⟨u1, h1, u2, h2, u3, h3, hu⟩ := up_form sc
 rw [hu] at hc ⊢
 have := List.all_eq_true.mp (List.all_eq_true.mp (List.all_eq_true.mp (List.all_eq_true.mp hack_all u1 h1) u2 h2) u3 h3) _ (List.mem_range.mpr p1)
 unfold checkW at this
 have := List.all_eq_true.mp this m (List.mem_range.mpr hm)
 rw [hc, Bool.not_true, Bool.false_or] at this
 rw [eq_of_beq this]
theorem chains_ok (sc : List Int) : (chainsOf (readsOf sc)).length = 4 ∧ ∀ i < 4, i ∈ (chainsOf (readsOf sc)).getD i [] := by
 rw [chains_eq]
 obtain ⟨u1, h1, u2, h2, u3, h3, hu⟩ := up_form sc
 rw [hu]
 have : (([4, 0] : List Nat).all fun u1 => ([4, 0, 1] : List Nat).all fun u2 => ([4, 0, 1, 2] : List Nat).all fun u3 => decide ((chU [4, u1, u2, u3]).length = 4) && (List.range 4).all fun i => ((chU [4, u1, u2, u3]).getD i []).contains i) = true := by decide +kernel
 have := List.all_eq_true.mp (List.all_eq_true.mp (List.all_eq_true.mp this u1 h1) u2 h2) u3 h3
 simp only [Bool.and_eq_true, decide_eq_true_eq, List.all_eq_true, List.contains_iff_mem, List.mem_range] at this
 exact this
end
section
variable {C : Cx} {k : Nat}
theorem law_ret (W : Wd C) (sc : List Int) (hsc : sc.length ≤ 100000) (L : Addr) : Ret C (k + 3) (callEnvC fd_law L fn_law) (bindR ((["script"] : List Str).zip [PV.lst (sc.map .int)]) fun _ => none) (bodyOf st_law) (.fr (.bool true)) := by
 have O := words_ok sc
 obtain ⟨c1, c2⟩ := chains_ok sc
 generalize hkn : knownL (wlD sc) (tabOf (parOf (readsOf sc)) (chainsOf (readsOf sc)) 16) = kn
 have hp : ∀ k, PN C (k + 3) (.ref fn_q1) [.lst ((readsOf sc).map rdP)] (hdLoc kn) := fun k => by
  rw [← hkn]
  exact play_spec W (readsOf sc) (reads_len sc) (reads_fit sc) O c1 c2
 have hlow : ∀ x ∈ kn, lowOk x.1 := by rw [← hkn]; exact O.knownLow
 refine Ret.step (law_drawn W sc hsc L rfl) (Ret.freeze "drawn" (l1 := drLoc sc) rfl rfl ?_)
 refine Ret.step (Ex.assign (Ev.headers W (by walk_at "ev") (Ev.list EvL.nil)) (by walk_at "st")) ?_
 refine Ret.pre (ρ2 := ofL [("page", hdLoc []), ("drawn", drLoc sc)]) (LeL.le ⟨rfl, rfl, trivial⟩) ?_
 refine Ret.step (law_page W sc L) ?_
 refine Ret.step (law_known W sc hp L) ?_
 refine Ret.step (law_cols W sc L rfl) (Ret.freeze "columns" (l1 := colLoc sc) rfl rfl ?_)
 refine Ret.step (Ex.assign (Ev.list EvL.nil) (by walk_at "st")) ?_
 refine Ret.pre (ρ2 := ofL [("up", .ol []), ("drawn", drLoc sc), ("known", hdLoc kn), ("columns", colLoc sc)]) (LeL.le ⟨rfl, rfl, rfl, rfl, trivial⟩) ?_
 refine Ret.step (law_up W sc kn L) (Ret.freeze "up" (l1 := .fr (.lst (intsP (upL sc)))) rfl rfl ?_)
 refine Ret.pre (ρ2 := ofL (baseL sc kn)) (LeL.le ⟨rfl, rfl, rfl, trivial⟩) ?_
 refine Ret.step (ρ1 := ofL (baseL sc kn)) (Ex.forL (EvIt.range1 (b := 16) (n := 16) (by walk_at "ev") (by walk_at "ev") (by rfl) (by rfl)) ?_) (Ret.ret Ev.boolC)
 rw [range_ints]
 have key := LoopL.foldA (C := C) (k := k + 3) (env := callEnvC fd_law L fn_law) (t := forT (nthS (bodyOf st_law) 7)) (body := bodyM) (fun (i : Nat) => PV.int (i : Nat)) (fun (_ : Unit) => ofL (baseL sc kn)) (fun u _ => u) (fun xs _ => ∀ i ∈ xs, i < 16) (List.range 16) (.itr (intsP (List.range 16))) () Steps.name (fun i h => List.mem_range.mp h) ?_
 · exact key
 rintro - m xs hx
 have hm := hx m List.mem_cons_self
 refine ⟨fun j hj => hx j (List.mem_cons_of_mem _ hj), _, As.name (by walk_at "st"), ?_⟩
 refine Exs.cons (law_here W m hm L rfl) (Exs.freeze (x := "here") (l' := .fr (.lst (intsP (hereOf m)))) rfl rfl ?_)
 refine Exs.pre (ρ2 := ofL (("here", .fr (.lst (intsP (hereOf m)))) :: ("mask", .fr (.int (m : Nat))) :: baseL sc kn)) (LeL.le ⟨rfl, rfl, rfl, rfl, rfl, trivial⟩) ?_
 refine Exs.cons (ρ' := ofL (baseL sc kn)) (Ex.ite (b := closedU (upL sc) (hereOf m)) (o := .next) (law_closed W sc (hereOf m) (fun i => here_lt) (here_len m) L rfl rfl) (fun h => ?_) (fun h => Exs.post (LeL.le ⟨rfl, rfl, rfl, trivial⟩) Exs.nil)) (Exs.post .refl Exs.nil)
 refine law_test W sc kn O hlow (hereOf m) (fun i => here_lt) (here_len m) (worthOf (hereOf m) (drawnOf sc) (upL sc)) (fun k => worth_spec W _ _ _ (here_len m) fun i hi => ?_) (by rw [← hkn]; exact law_plain sc m hm h) L
 have hi4 := here_lt hi
 refine ⟨hi4, by unfold drawnOf; simpa using hi4, by rw [up_len]; exact hi4, ?_⟩
 obtain ⟨u1, h1, u2, h2, u3, h3, hu⟩ := up_form sc
 have hc : u1 < 5 ∧ u2 < 5 ∧ u3 < 5 := by simp at h1 h2 h3; omega
 rw [hu]
 match i, hi4 with
 | 0, _ => exact (by decide : 4 < 5)
 | 1, _ => exact hc.1
 | 2, _ => exact hc.2.1
 | 3, _ => exact hc.2.2
end
theorem lookup_all {f : Str → Option Value} : ∀ {l : List (Str × Value)}, l.map (fun e => f e.1) = l.map (fun e => some e.2) → ∀ {x : Str} {v : Value}, l.lookup x = some v → f x = some v
 | [], _, x, v, e => by cases e
 | (n, u) :: r, h, x, v, e => by
  simp only [List.map_cons, List.cons.injEq] at h
  rw [List.lookup_cons] at e
  by_cases hx : (x == n) = true
  · rw [hx] at e
    obtain rfl := eq_of_beq hx
    simp only [Option.some.injEq] at e
    rw [← e]; exact h.1
  · rw [show (x == n) = false by simpa using hx] at e
    exact lookup_all h.2 e
theorem lookup_none {f : Str → Option Value} : ∀ {l : List (Str × Value)}, l.map (fun e => f e.1) = l.map (fun e => (none : Option Value)) → ∀ {x : Str} {v : Value}, l.lookup x = some v → f x = none
 | [], _, x, v, e => by cases e
 | (n, u) :: r, h, x, v, e => by
  simp only [List.map_cons, List.cons.injEq] at h
  rw [List.lookup_cons] at e
  by_cases hx : (x == n) = true
  · obtain rfl := eq_of_beq hx
    exact h.1
  · rw [show (x == n) = false by simpa using hx] at e
    exact lookup_none h.2 e
noncomputable def oAt (P : Params) (os : OsState) (a : Addr) : Obj := ((hp1 P os).get? a).getD default
noncomputable def dictEs (o : Obj) : Array DictEntry := match o.data with | .dict es _ => es | _ => #[]
noncomputable def dictEp (o : Obj) : Nat := match o.data with | .dict _ n => n | _ => 0
noncomputable def setEs (o : Obj) : Array (Int × Value) := match o.data with | .set es _ _ => es | _ => #[]
noncomputable def fldsOf (o : Obj) : Array Value := match o.data with | .fields f => f | _ => #[]
noncomputable def seqOf (o : Obj) : Array Value := match o.data with | .seq f _ => f | _ => #[]
noncomputable def seqN (o : Obj) : Nat := match o.data with | .seq _ n => n | _ => 0
noncomputable def refOf (v : Value) : Addr := match v with | .ref a => a | _ => 0
noncomputable def intOf (v : Value) : Option Int := match v with | .int i _ => some i | _ => none
noncomputable def strOfV (v : Value) : Option Str := match v with | .str x _ => some x | _ => none
theorem intOf_some {v : Value} {i : Int} (h : intOf v = some i) : ∃ t, v = .int i t := by
 unfold intOf at h
 split at h
 · cases h; exact ⟨_, rfl⟩
 · cases h
theorem strOfV_some {v : Value} {i : Str} (h : strOfV v = some i) : ∃ t, v = .str i t := by
 unfold strOfV at h
 split at h
 · cases h; exact ⟨_, rfl⟩
 · cases h
section
variable {prog : Program} {w : World}
theorem set_elems (es : List (Int × Value)) (L : List Int) (h : es.map (fun e => (e.1, intOf e.2)) = L.map fun i => (hashInt i, some i)) : ElemsOf (intKind prog w) es ∧ ∀ k, L.any (· == k) = true ↔ ∃ e ∈ es, (intKind prog w).is k e.2 = true := by
 induction es generalizing L with
 | nil =>
  cases L with
  | nil => exact ⟨(fun e h => by cases h), fun k => by simp⟩
  | cons i r => cases h
 | cons e es ih =>
  cases L with
  | nil => cases h
  | cons i r =>
   simp only [List.map_cons, List.cons.injEq, Prod.mk.injEq] at h
   obtain ⟨⟨h1, h2⟩, h3⟩ := h
   obtain ⟨a, b⟩ := ih r h3
   obtain ⟨t, ht⟩ := intOf_some h2
   have hk : ∀ k, (intKind prog w).is k e.2 = (i == k) := fun k => by rw [ht]; rfl
   refine ⟨fun e' he => ?_, fun k => ?_⟩
   · rw [List.mem_cons] at he
     rcases he with rfl | he
     · exact ⟨⟨i, by rw [hk]; simp, h1⟩, by rw [ht]; rfl⟩
     · exact a e' he
   · rw [List.any_cons, Bool.or_eq_true, b k]
     constructor
     · rintro (q | ⟨e', he, q⟩)
       · exact ⟨e, List.mem_cons_self, by rw [hk]; exact q⟩
       · exact ⟨e', List.mem_cons_of_mem _ he, q⟩
     · rintro ⟨e', he, q⟩
       rw [List.mem_cons] at he
       rcases he with rfl | he
       · left; rw [hk] at q; exact q
       · exact .inr ⟨e', he, q⟩
theorem tab_int (es : List DictEntry) (L : List (Int × Str)) (h : es.map (fun e => (e.hash, intOf e.key, strOfV e.val)) = L.map fun x => (hashInt x.1, some x.1, some x.2)) :
 (∀ e ∈ es, ∃ k, (intKind prog w).is k e.key = true ∧ e.hash = (intKind prog w).hash k) ∧ ∃ kvs, Pairs (intKind prog w) es kvs ∧ FlatPairs PyData.int kvs (L.map fun x => (.int x.1, .str x.2)) ∧ kvs.map (·.1) = L.map (·.1) := by
 induction es generalizing L with
 | nil =>
  cases L with
  | nil => exact ⟨(fun e h => by cases h), [], .nil, .nil, rfl⟩
  | cons i r => cases h
 | cons e es ih =>
  cases L with
  | nil => cases h
  | cons x r =>
   simp only [List.map_cons, List.cons.injEq, Prod.mk.injEq] at h
   obtain ⟨⟨h1, h2, h4⟩, h3⟩ := h
   obtain ⟨a, kvs, b, c, d⟩ := ih r h3
   obtain ⟨t, ht⟩ := intOf_some h2
   obtain ⟨u, hu⟩ := strOfV_some h4
   have hk : (intKind prog w).is x.1 e.key = true := by rw [ht]; show (x.1 == x.1) = true; simp
   refine ⟨fun e' he => ?_, (x.1, e.val) :: kvs, .cons hk rfl b, ?_, by rw [List.map_cons, List.map_cons, d]⟩
   · rw [List.mem_cons] at he
     rcases he with rfl | he
     · exact ⟨x.1, hk, h1⟩
     · exact a e' he
   · refine FlatPairs.cons ?_ c
     rw [hu]; exact Flat.str _ _
theorem tab_str (es : List DictEntry) (L : List (Str × Int)) (h : es.map (fun e => (e.hash, strOfV e.key, intOf e.val)) = L.map fun x => (hashStr w x.1, some x.1, some x.2)) :
 (∀ e ∈ es, ∃ k, (strKind prog w).is k e.key = true ∧ e.hash = (strKind prog w).hash k) ∧ ∃ kvs, Pairs (strKind prog w) es kvs ∧ FlatPairs PyData.str kvs (L.map fun x => (.str x.1, .int x.2)) ∧ kvs.map (·.1) = L.map (·.1) := by
 induction es generalizing L with
 | nil =>
  cases L with
  | nil => exact ⟨(fun e h => by cases h), [], .nil, .nil, rfl⟩
  | cons i r => cases h
 | cons e es ih =>
  cases L with
  | nil => cases h
  | cons x r =>
   simp only [List.map_cons, List.cons.injEq, Prod.mk.injEq] at h
   obtain ⟨⟨h1, h2, h4⟩, h3⟩ := h
   obtain ⟨a, kvs, b, c, d⟩ := ih r h3
   obtain ⟨t, ht⟩ := strOfV_some h2
   obtain ⟨u, hu⟩ := intOf_some h4
   have hk : (strKind prog w).is x.1 e.key = true := by rw [ht]; show (x.1 == x.1) = true; simp
   refine ⟨fun e' he => ?_, (x.1, e.val) :: kvs, .cons hk rfl b, ?_, by rw [List.map_cons, List.map_cons, d]⟩
   · rw [List.mem_cons] at he
     rcases he with rfl | he
     · exact ⟨x.1, hk, h1⟩
     · exact a e' he
   · refine FlatPairs.cons ?_ c
     rw [hu]; exact Flat.int _ _
end
theorem w_X (P : Params) (os : OsState) : (KK P).In (hp1 P os) := Frag.in_of (as := (KK P).map (·.1)) rfl (by kernel_rfl)
theorem w_g (P : Params) (os : OsState) : gtab.map (fun e => (hp1 P os).nsMap mainGlobals e.1) = gtab.map (fun e => some e.2) := by kernel_rfl
theorem w_n (P : Params) (os : OsState) : btab.map (fun e => (hp1 P os).nsMap mainGlobals e.1) = btab.map (fun e => none) := by kernel_rfl
theorem w_b (P : Params) (os : OsState) : btab.map (fun e => (hp1 P os).nsMap builtinsNs e.1) = btab.map (fun e => some e.2) := by kernel_rfl
theorem w_lim (P : Params) (os : OsState) : (hp1 P os).noLimitOk = true := by kernel_rfl
theorem w_set1 (P : Params) (os : OsState) : (hp1 P os).get? at_q22 = some (oAt P os at_q22) := by kernel_rfl
noncomputable def b1L2 : List Int := [65024, 65025, 65026, 65027, 65028, 65029, 6150, 65030, 65031, 65032, 65033, 6155, 6156, 6157, 8203, 8204, 8205, 65034, 65035, 65036, 65037, 65038, 65039, 173, 847, 8288, 65279]
noncomputable def setOk (o : Obj) : Bool := match o.data with
 | .set es _ t => t.fits es.size && decide (es.size = 27)
 | _ => false
noncomputable def dictB (o : Obj) : Bool := match o.data with
 | .dict _ _ => true
 | _ => false
theorem dictB_of {o : Obj} (h : dictB o = true) : o.data = .dict (dictEs o) (dictEp o) := by
 unfold dictB at h
 unfold dictEs dictEp
 split at h
 · rename_i e; rw [e]
 · cases h
theorem w_set2 (P : Params) (os : OsState) : ((oAt P os at_q22).cls, (oAt P os at_q22).dict, (oAt P os at_q22).slots) = (Value.type "set", none, #[]) := by kernel_rfl
theorem w_set3 (P : Params) (os : OsState) : setOk (oAt P os at_q22) = true := by kernel_rfl
theorem w_set4 (P : Params) (os : OsState) : (setEs (oAt P os at_q22)).toList.map (fun e => (e.1, intOf e.2)) = b1L2.map fun i => (hashInt i, some i) := by kernel_rfl
theorem b1_same : (b1L.all fun i => b1L2.contains i) = true ∧ (b1L2.all fun i => b1L.contains i) = true := by decide +kernel
theorem isB1_eq (k : Int) : isB1 k = b1L2.any (· == k) := by
 unfold isB1
 rw [Bool.eq_iff_iff, List.any_eq_true, List.any_eq_true]
 constructor
 · rintro ⟨x, hx, h⟩
   exact ⟨x, List.contains_iff_mem.mp (List.all_eq_true.mp b1_same.1 x hx), h⟩
 · rintro ⟨x, hx, h⟩
   exact ⟨x, List.contains_iff_mem.mp (List.all_eq_true.mp b1_same.2 x hx), h⟩
theorem w_b31 (P : Params) (os : OsState) : (hp1 P os).get? at_q16 = some (oAt P os at_q16) := by kernel_rfl
theorem w_b32 (P : Params) (os : OsState) : ((oAt P os at_q16).cls, (oAt P os at_q16).dict, (oAt P os at_q16).slots) = (Value.type "dict", none, #[]) := by kernel_rfl
theorem w_b33 (P : Params) (os : OsState) : dictB (oAt P os at_q16) = true := by kernel_rfl
theorem w_b34 (P : Params) (os : OsState) : (dictEs (oAt P os at_q16)).toList.map (fun e => (e.hash, intOf e.key, strOfV e.val)) = b3L.map fun x => (hashInt x.1, some x.1, some x.2) := by kernel_rfl
theorem w_ex1 (P : Params) (os : OsState) : (hp1 P os).get? at_q11 = some (oAt P os at_q11) := by kernel_rfl
theorem w_ex2 (P : Params) (os : OsState) : ((oAt P os at_q11).cls, (oAt P os at_q11).dict, (oAt P os at_q11).slots) = (Value.type "dict", none, #[]) := by kernel_rfl
theorem w_ex3 (P : Params) (os : OsState) : dictB (oAt P os at_q11) = true := by kernel_rfl
theorem w_ex4 (w : World) (os : OsState) : (dictEs (oAt w.params os at_q11)).toList.map (fun e => (e.hash, strOfV e.key, intOf e.val)) = exL.map fun x => (hashStr w x.1, some x.1, some x.2) := by kernel_rfl
theorem ex_nodup : (exL.map (·.1)).Nodup := by decide +kernel
noncomputable abbrev codeAt (P : Params) (os : OsState) (a : Addr) : Addr := refOf ((fldsOf (oAt P os a)).getD 5 .none)
theorem w_pn (P : Params) (os : OsState) : PatAt (hp1 P os) at_q9 nameCode :=
 ⟨oAt P os at_q9, fldsOf (oAt P os at_q9), codeAt P os at_q9, oAt P os (codeAt P os at_q9), seqOf (oAt P os (codeAt P os at_q9)), seqN (oAt P os (codeAt P os at_q9)),
  by kernel_rfl, by kernel_rfl, by kernel_rfl, by kernel_rfl, by kernel_rfl, by kernel_rfl, by kernel_rfl, by kernel_rfl, by kernel_rfl⟩
theorem w_pv (P : Params) (os : OsState) : PatAt (hp1 P os) at_q8 valueCode :=
 ⟨oAt P os at_q8, fldsOf (oAt P os at_q8), codeAt P os at_q8, oAt P os (codeAt P os at_q8), seqOf (oAt P os (codeAt P os at_q8)), seqN (oAt P os (codeAt P os at_q8)),
  by kernel_rfl, by kernel_rfl, by kernel_rfl, by kernel_rfl, by kernel_rfl, by kernel_rfl, by kernel_rfl, by kernel_rfl, by kernel_rfl⟩
theorem w_sm1 (P : Params) (os : OsState) : (hp1 P os).get? sysModules = some (oAt P os sysModules) := by kernel_rfl
theorem w_sm2 (P : Params) (os : OsState) : (dictEs (oAt P os sysModules)).isEmpty = false := by kernel_rfl
noncomputable def cxOf (w : World) (os : OsState) (z : Shared) : Cx := ⟨pw, w, hp1 w.params os, z, (hp1 w.params os).nsMap mainGlobals, (hp1 w.params os).nsMap builtinsNs, .of_isNs (c5 _ _), .of_isNs (c5b _ _), .of_ok (w_lim _ _)⟩
theorem wd_of (w : World) (os : OsState) (z : Shared) : Wd (cxOf w os z) where
 X := w_X _ _
 g := fun x v h => lookup_all (w_g _ _) h
 n := fun x v h => lookup_none (w_n _ _) h
 b := fun x v h => lookup_all (w_b _ _) h
 set := by
  have h2 := w_set2 w.params os
  have h3 := w_set3 w.params os
  have h4 := w_set4 w.params os
  simp only [Prod.mk.injEq] at h2
  generalize hd : (oAt w.params os at_q22).data = d at *
  unfold setOk at h3
  rw [hd] at h3
  cases d with
  | set es ep t =>
   simp only [Bool.and_eq_true, decide_eq_true_eq] at h3
   have he : setEs (oAt w.params os at_q22) = es := by unfold setEs; rw [hd]
   rw [he] at h4
   obtain ⟨a, b⟩ := set_elems (prog := pw) (w := w) es.toList b1L2 h4
   exact ⟨_, es, ep, t, w_set1 _ _, h2, hd, a, fun k => by rw [isB1_eq]; exact b k, by rw [h3.2]; decide, h3.1, h3.2⟩
  | _ => cases h3
 b3 := by
  obtain ⟨a, kvs, b, c, d⟩ := tab_int (prog := pw) (w := w) _ _ (w_b34 w.params os)
  have h2 := w_b32 w.params os
  simp only [Prod.mk.injEq] at h2
  exact TabAt.ofObj (by decide) (w_b31 _ _) ⟨_, _, h2, dictB_of (w_b33 _ _), fun e he => a e (Array.mem_toList_iff.mpr he), b, by rw [d]; exact incr_nodup _ b3_incr⟩ c
 ex := by
  obtain ⟨a, kvs, b, c, d⟩ := tab_str (prog := pw) (w := w) _ _ (w_ex4 w os)
  have h2 := w_ex2 w.params os
  simp only [Prod.mk.injEq] at h2
  exact TabAt.ofObj (by decide) (w_ex1 _ _) ⟨_, _, h2, dictB_of (w_ex3 _ _), fun e he => a e (Array.mem_toList_iff.mpr he), b, by rw [d]; exact ex_nodup⟩ c
 pn := w_pn _ _
 pv := w_pv _ _
 sm := ⟨_, w_sm1 _ _, fun q => by
  have := w_sm2 w.params os
  rw [q] at this
  cases this⟩
noncomputable abbrev RW : OpenLaw := rw_sh0080_01
theorem pre_len {xs : List WData} (h : RW.row.toRowW.pre.holds RW.row.toRowW.records { args := [.list xs] } = true) : xs.length ≤ 63 := by
 apply Classical.byContradiction
 intro hn
 have e : RW.row.toRowW.pre = .and (.not (.lt (.lit (.int 63)) (.len (.arg 0)))) (.lit (.bool true)) := rfl
 rw [e] at h
 simp [WTm.holds, WTm.value] at h
 have el : W.less? (WData.int 63) (WData.int (xs.length : Nat)) = some true := by
  have hlt : (63 : Int) < (xs.length : Nat) := by omega
  simp [W.less?, Num.less?]; omega
 rw [el] at h
 cases h
theorem rps_ints {P : Params} {h : Heap} : ∀ (vs : List Value) (ns : List Int), WellAll P h vs (ns.map .int) → Rps (fun b => h.get? b) (ns.map .int) vs
 | vs, [], x => by cases x; exact .nil
 | vs, n :: r, x => by
  cases x with
  | cons a b =>
   cases a with
   | int i t => exact .cons (.int _ t) (rps_ints _ r b)
theorem room : Rm callerA (3 + 1) := by
 refine ⟨rfl, ?_, ?_⟩
 · decide +kernel
 · decide +kernel
theorem law_call (w : World) (os : OsState) (s₁ : Shared) (hk : ∀ b o, (hp1 w.params os).get? b = some o → s₁.heap.get? b = some o) {vs : List Value} {ns : List Int} (hlen : ns.length ≤ 100000) (hv : WellAll w.params s₁.heap vs [.list (ns.map .int)])
 {Q : Value → Shared → Prop} {E : Value → Shared → Prop} (H : ∀ s', (∃ h tk, s' = { s₁ with heap := h, toks := tk }) → (∀ b o, s₁.heap.get? b = some o → s'.heap.get? b = some o) → Q (.bool true) s') :
 wpAny (model pw w) callerA (call (.ref fn_law) vs) Q E s₁ := by
 have W := wd_of w os s₁
 have F : IsDef (cxOf w os s₁) fn_law fd_law ["script"] (bodyOf st_law) := isDef_of W (fun P => by kernel_rfl) (fun P => by kernel_rfl) (by kernel_rfl) rfl
 cases hv with
 | cons a b =>
 cases b
 cases a with
 | list hg hs =>
 refine callTop (C := cxOf w os s₁) (ps := [.lst (ns.map .int)]) F room ⟨s₁.heap, s₁.toks, rfl⟩ hk rfl (.cons (.lst (n := 0) hg (by simpa using rps_ints _ ns hs)) .nil) rfl (fun L => law_ret W ns hlen L) fun v s' kp ow hz hk hr => ?_
 obtain ⟨hp, -⟩ := hr.fr_inv
 obtain rfl := hp.bool_inv
 exact H s' hz hk
theorem law_def (P : Params) (os : OsState) : isTheDefsW pw (hp1 P os) "law" := by
 refine ⟨fn_law, oAt P os fn_law, fd_law, fd_law.params, bodyOf st_law, fd_law.scope, (Pin.globalOf_eq (c5 _ _) _).trans (by kernel_rfl), by kernel_rfl, by kernel_rfl, by kernel_rfl, rfl, rfl, rfl, rfl, rfl, rfl, rfl, rfl, ⟨.inl ⟨by kernel_rfl, rfl⟩, [], by kernel_rfl, .inl ⟨rfl, rfl⟩⟩⟩
theorem asleep1 (P : Params) (os : OsState) {s : Shared} (h : s.heap = hp1 P os) : s.asleep := by
 have e : s.heap.life = {} := by rw [h]; unfold hp1; rw [abs1]; rfl
 unfold Shared.asleep
 rw [e]
 exact ⟨rfl, rfl⟩
theorem law_open : RW.row.toRowW.claim.HoldsOpenBy (callStub RW.row.name) (if RW.row.pinned then [RW.row.name] else []) RW.row.keeps RW.row.writes := by
 refine ⟨⟨⟨rfl, rfl, rfl, rfl, rfl, by decide +kernel⟩, by decide +kernel, rfl⟩, ⟨[.list [.int 3, .int 1]], by decide +kernel, by decide +kernel⟩, fun w => ⟨(head_ok w).1, fun s hs => ?_⟩⟩
 obtain ⟨s₀, os, hf, hs0, hT⟩ := (head_ok w).2 s hs
 refine ⟨s₀, hf, by rw [hs0, abs0], _, hT, ?_, fun x hx => (nomatch hx), fun x hx => (nomatch hx), ?_⟩
 · intro n hn
   have : n = "law" := by simpa [RW, rw_sh0080_01, OpenLaw.row] using hn
   subst this
   exact law_def w.params os
 · have hT' := hT
   refine ClaimW.callFrom_of_specG (c := RW.row.toRowW.claim) (asleep1 w.params os rfl) (by rw [abs1]) fun args hpre hlay ord hord => ?_
   obtain ⟨⟨vs, s₁⟩, hlaid⟩ := Option.isSome_iff_exists.mp (layAllW_isSome (R := RW.row.toRowW.claim.records) (cl := classAt (hp1 w.params os)) (P := w.params) (ord := ord) (fun c hc => (nomatch hc)) args RW.row.toRowW.args _ (pre_splitW hpre).1)
   have keeps := layAllW_keeps _ _ _ hlaid
   have hal := layAllW_rest _ _ _ hlaid
   obtain ⟨as, hrd, hin, hold⟩ := reads_layAllW hord _ _ _ hlaid hlay s₁.heap (fun _ _ e => e)
   have L : Laid RW.row.toRowW.claim.records w _ s₁ args vs as := ⟨⟨ord, hord, hlaid⟩, hrd, hin, hold, keeps, hal.1.trans (by rw [abs1]), hal.2.2.1⟩
   obtain ⟨hsh, hpr⟩ := pre_splitW hpre
   obtain ⟨d, r, rfl, hd, hr⟩ := hasAllW_cons (es := []) hsh
   obtain rfl := hasAllW_nil hr
   obtain ⟨xs, rfl, hi⟩ := hasW_list hd
   have hl := pre_len hpr
   obtain ⟨ns, rfl⟩ := items_int hi
   rw [List.length_map] at hl
   have hw := L.well
   have gns : s₁.heap.Ns mainGlobals ((hp1 w.params os).nsMap mainGlobals) := (Heap.Ns.of_isNs (c5 _ _)).keeps keeps
   refine ⟨vs, s₁, hlaid, ?_⟩
   refine wpAny_bind (wpAny_nsGet gns ?_)
   have hf : (hp1 w.params os).nsMap mainGlobals RW.row.name = some (.ref fn_law) := by kernel_rfl
   rw [hf]
   refine wpAny_bind (law_call w os s₁ keeps (by omega) hw fun s' hz hk => wpAny_pure ?_)
   have hG : GoodWG RW.row.toRowW.claim (classAt (hp1 w.params os)) (ExcName.means (hp1 w.params os)) [.list (ns.map .int)] s₁ (.ok (.ret (.bool true))) s' := by
    obtain ⟨h, tk, rfl⟩ := hz
    exact ⟨.inl ⟨_, .bool true, [], rfl, fun cls => rfl, .bool true, by kernel_rfl, fun _ => ⟨List.nodup_nil, fun a ha => (nomatch ha)⟩⟩, .of_keep hk, rfl, .of_eq L.gens⟩
   have z := hG.laid (c := RW.row.toRowW.claim) rfl rfl (ident_freeW rfl rfl rfl) L
   refine ⟨_, rfl, z.1, z.2.1, z.2.2, fun q => ⟨namesKept_of hT' (c5 _ _) RW.row.keeps keeps fun b o e => .inl (hk b o e), fun x hx => (nomatch hx)⟩⟩
theorem law_prom : RW.row.toRowW.promised := ⟨[.list [.int 3, .int 1]], by decide +kernel, by decide +kernel⟩
noncomputable abbrev pB : List Stmt := RW.prog.main.body
theorem ws_1 : sreFenced RW.prog.main = true := by kernel_rfl
theorem ws_2 : ((moduleNames pB).isEmpty || lookedIntoSs (moduleNames pB) pB) = true := by kernel_rfl
theorem ws_3 : namesResolve RW.prog = true := by kernel_rfl
theorem ws_4 : RW.prog.boundNames.all (fun n => !worldNames.contains n) = true := by kernel_rfl
theorem ws_5a : (["vars", "dir", "locals"] : List Str).filter (readsOut RW.prog pB) = [] := by kernel_rfl
theorem ws_5b : (!(importedModules pB).all cThrough.contains) = false := by kernel_rfl
theorem ws_5c : noRoadLSs { strict := false, foot := none, bare := [] } pB = true := by kernel_rfl
theorem ws_5 : noRoadLSs { strict := !(importedModules pB).all cThrough.contains, foot := none, bare := (["vars", "dir", "locals"] : List Str).filter (readsOut RW.prog pB) } pB = true := by
 rw [ws_5a, ws_5b]; exact ws_5c
theorem ws_6 : namesMeet RW.prog pB (fun _ n => attrL n) = true := by kernel_rfl
theorem ws_open : looksOpen RW.row.prog = true := by
 unfold looksOpen
 exact look_both (look_both (look_both (look_both (look_both ws_1 ws_2) ws_3) ws_4) ws_5) ws_6
theorem ws_row : RW.row.wellSaid = true := by
 unfold OpenRow.wellSaid OpenRow.partSaid
 iterate 15 (refine look_both ?_ (by kernel_rfl))
 exact ws_open
theorem ws_7 : noRoadLSs { strict := true, foot := some RW.bound', writes := RW.writes, may := RW.may } RW.footing = true := by kernel_rfl
theorem ws_8 : RW.bound'.all (fun n => !builtinNamed n || RW.about == [n] || !RW.reads n) = true := by kernel_rfl
theorem ws_9 : namesMeet RW.prog RW.above (fun _ n => !RW.own.contains n) = true := by kernel_rfl
theorem law_said : RW.wellSaid = true := by
 unfold OpenLaw.wellSaid
 refine look_both ?_ (by kernel_rfl)
 refine look_both ?_ ws_9
 iterate 6 (refine look_both ?_ (by kernel_rfl))
 refine look_both ?_ ws_8
 iterate 3 (refine look_both ?_ (by kernel_rfl))
 refine look_both ?_ ws_7
 iterate 5 (refine look_both ?_ (by kernel_rfl))
 exact ws_row
end Mine
open PySem PySem.W PyProof.Rows
theorem PySem.Challenge.cw_sh0080_01_holds : PySem.Challenge.rw_sh0080_01.Holds := by
 exact holds_law Mine.law_said fun said => ⟨said, Mine.law_prom, Mine.law_open⟩
