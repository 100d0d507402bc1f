import PyProof.Rows.All
import PyProof.DictItems
import PyProof.Draws
import PyProof.EnumMake
import PyProof.ExcFactsAll.ValueError
import PyProof.ExcAttrAll.ValueError
import PyProof.ExcStrAll.ValueError
import PyProof.ExcStrCall
import PyProof.RulesAs
import PyProof.NsDelKeeps
import Flt.RightMore
import Flt.Ops
import ObjForm.Fk.InstStore
import ObjForm.Fk.InstLoad
import Flt.Zero
import OpenK.KMore
import KE.KLam
import KE.KSortKey
import KE.KPar
import KE.KSortAsk
import KE.KSortTup
import KE.KStrWords
import Wide.FinOn
import OpenK.AllK
import Wide.All
import PySem.Challenge.RW_ta0122_01
open PySem PySem.Calls PyProof.Rows PySem.W
set_option maxRecDepth 100000
set_option maxHeartbeats 8000000
set_option Elab.async false
set_option tactic.hygienic false
set_option genSizeOf false
set_option genInjectivity false
set_option bootstrap.genMatcherCode false
set_option compiler.extract_closed false
set_option linter.all false
namespace Mine
structure Ct where
 prog : Program
 w : World
 K : Frag
 mg : Str → Option Value
 mb : Str → Option Value
 h₀ : Heap
 X : K.In h₀
 g : h₀.Ns mainGlobals mg
 b : h₀.Ns builtinsNs mb
 nb : NoneBooked h₀
 lim : h₀.NoLimit
 blt : ∀ x : Str, x ≠ "__name__" → mb x = bootBuiltins x
 /-- tokens are drawn already -/
 tp : Prop
noncomputable abbrev Ct.M (C : Ct) : Model := model C.prog C.w
structure Wd where
 ρ : List Addr
 π : List Addr
 s : Shared
noncomputable abbrev Wd.h (w : Wd) : Heap := w.s.heap
noncomputable abbrev lstObj (vs : List Value) (n : Nat) : Obj := { cls := .type "list", data := .seq vs.toArray n }
noncomputable abbrev tupObj (vs : List Value) (n : Nat) : Obj := { cls := .type "tuple", data := .seq vs.toArray n }
structure Step (X : List Addr) (w w' : Wd) : Prop where
 rho : ∃ δ, w'.ρ = w.ρ ++ δ ∧ ∀ a ∈ δ, w.h.get? a = none ∧ a ∉ X
 keep : ∀ a o, w.h.get? a = some o → a ∉ w.ρ → a ∉ X → w'.h.get? a = some o
 live : ∀ a o, w.h.get? a = some o → a ∉ X → ∃ o', w'.h.get? a = some o'
 gens : w'.s.gens = w.s.gens
 os : w'.s.os = w.s.os
 pin : w'.π = w.π
 tk : w.s.toks ≤ w'.s.toks
theorem Step.refl (X : List Addr) (w : Wd) : Step X w w := ⟨⟨[], by simp, by simp⟩, fun q_ q_ e q_ q_ => e, fun q_ q_ e q_ => ⟨_, e⟩, rfl, rfl, rfl, Nat.le_refl _⟩
theorem below2 {k : Nat} (h : k < 2) : k = 0 ∨ k = 1 := (by decide : ∀ k, k < 2 → k = 0 ∨ k = 1) k h
theorem below3 {k : Nat} (h : k < 3) : k = 0 ∨ k = 1 ∨ k = 2 := (by decide : ∀ k, k < 3 → k = 0 ∨ k = 1 ∨ k = 2) k h
theorem below4 {k : Nat} (h : k < 4) : k = 0 ∨ k = 1 ∨ k = 2 ∨ k = 3 := (by decide : ∀ k, k < 4 → k = 0 ∨ k = 1 ∨ k = 2 ∨ k = 3) k h
theorem below5 {k : Nat} (h : k < 5) : k = 0 ∨ k = 1 ∨ k = 2 ∨ k = 3 ∨ k = 4 := (by decide : ∀ k, k < 5 → k = 0 ∨ k = 1 ∨ k = 2 ∨ k = 3 ∨ k = 4) k h
theorem below6 {k : Nat} (h : k < 6) : k = 0 ∨ k = 1 ∨ k = 2 ∨ k = 3 ∨ k = 4 ∨ k = 5 := (by decide : ∀ k, k < 6 → k = 0 ∨ k = 1 ∨ k = 2 ∨ k = 3 ∨ k = 4 ∨ k = 5) k h
noncomputable abbrev isSeq (o : Obj) : Prop := ∃ vs n, o.data = .seq vs n
noncomputable def iterCls : List String := ["list_iterator", "tuple_iterator", "range_iterator", "enumerate", "zip", "dict_itemiterator", "dict_keyiterator", "str_iterator", "str_ascii_iterator"]
noncomputable def Soft (o : Obj) : Prop := (∃ v, o.data = .cell v) ∨ (∃ es n, o.data = .dict es n) ∨ (∃ vs T, o.data = .fields vs ∧ o.cls = .type T ∧ T ∈ iterCls)
noncomputable def NonSeq (w : Wd) (X : List Addr) : Prop := ∀ a ∈ X, a ∉ w.π ∧ ∀ o, w.h.get? a = some o → Soft o
structure Low (m : Nat) (w w' : Wd) : Prop where
 s : w'.s = w.s
 at_ : ∀ i, i < m → w'.ρ[i]? = w.ρ[i]?
 sub : ∀ a ∈ w'.ρ, a ∈ w.ρ
 pin : w'.π = w.π
theorem Low.le {m k : Nat} {w w' : Wd} (L : Low m w w') (h : k ≤ m) : Low k w w' := ⟨L.s, fun i q => L.at_ i (Nat.lt_of_lt_of_le q h), L.sub, L.pin⟩
structure Asrt where
 P : Wd → Value → Prop
 mono : ∀ {X w w' v}, NonSeq w X → Step X w w' → P w v → P w' v
 top : Nat
 low : ∀ {w w' v}, Low top w w' → P w v → P w' v
inductive V where
 | none
 | bool (b : Bool)
 | int (i : Int)
 | flt (x : UInt64)
 | str (x : Str)
 | tup (l : List V)
 | lst (l : List V)
 | ref (i : Nat)
 | val (v : Value)
 | sem (P : Asrt)
mutual
noncomputable def V.dat : V → Bool
 | .ref _ => false
 | .sem _ => false
 | .tup l => datL l
 | .lst l => datL l
 | _ => true
noncomputable def datL : List V → Bool
 | [] => true
 | v :: l => v.dat && datL l
end
theorem datL_iff : ∀ {l : List V}, datL l = true ↔ ∀ v ∈ l, v.dat = true
 | [] => by simp [datL]
 | v :: l => by simp [datL, datL_iff (l := l)]
theorem datL_append {a b : List V} : datL (a ++ b) = (datL a && datL b) := by
 induction a with
 | nil => simp [datL]
 | cons v a ih => simp [datL, ih, Bool.and_assoc]
mutual
inductive VRel (w : Wd) : V → Value → Prop
 | none : VRel w .none .none
 | bool (b : Bool) : VRel w (.bool b) (.bool b)
 | int (i : Int) (t : Tok) : VRel w (.int i) (.int i t)
 | flt (x : UInt64) (t : Tok) : t ≠ 0 → VRel w (.flt x) (.float x t)
 | str (x : Str) (t : Tok) : VRel w (.str x) (.str x t)
 | tup {l : List V} {a : Addr} {vs : List Value} {n : Nat} : w.h.get? a = some (tupObj vs n) → a ∉ w.ρ → VRels w l vs → VRel w (.tup l) (.ref a)
 | lst {l : List V} {a : Addr} {vs : List Value} {n : Nat} : w.h.get? a = some (lstObj vs n) → a ∉ w.ρ → VRels w l vs → VRel w (.lst l) (.ref a)
 | ref {i : Nat} {a : Addr} : w.ρ[i]? = some a → VRel w (.ref i) (.ref a)
 | val (v : Value) : VRel w (.val v) v
 | sem {P : Asrt} {v : Value} : P.P w v → VRel w (.sem P) v
inductive VRels (w : Wd) : List V → List Value → Prop
 | nil : VRels w [] []
 | cons {v : V} {x : Value} {l : List V} {xs : List Value} : VRel w v x → VRels w l xs → VRels w (v :: l) (x :: xs)
end
noncomputable def VInv (w : Wd) : V → Value → Prop
 | .none, x => x = .none
 | .bool b, x => x = .bool b
 | .int i, x => ∃ t, x = .int i t
 | .flt u, x => ∃ t, x = .float u t ∧ t ≠ 0
 | .str s, x => ∃ t, x = .str s t
 | .tup l, x => ∃ a vs n, x = .ref a ∧ w.h.get? a = some (tupObj vs n) ∧ a ∉ w.ρ ∧ VRels w l vs
 | .lst l, x => ∃ a vs n, x = .ref a ∧ w.h.get? a = some (lstObj vs n) ∧ a ∉ w.ρ ∧ VRels w l vs
 | .ref i, x => ∃ a, x = .ref a ∧ w.ρ[i]? = some a
 | .val v, x => x = v
 | .sem P, x => P.P w x
theorem VRel.inv {w : Wd} {v : V} {x : Value} (r : VRel w v x) : VInv w v x := by
 cases r with
 | none => rfl
 | bool => rfl
 | int _ t => exact ⟨t, rfl⟩
 | flt _ t h => exact ⟨t, rfl, h⟩
 | str _ t => exact ⟨t, rfl⟩
 | tup h n r => exact ⟨_, _, _, rfl, h, n, r⟩
 | lst h n r => exact ⟨_, _, _, rfl, h, n, r⟩
 | ref h => exact ⟨_, rfl, h⟩
 | val => rfl
 | sem h => exact h
noncomputable def VsInv (w : Wd) : List V → List Value → Prop
 | [], xs => xs = []
 | v :: l, xs => ∃ x ys, xs = x :: ys ∧ VRel w v x ∧ VRels w l ys
theorem VRels.inv {w : Wd} {l : List V} {xs : List Value} (r : VRels w l xs) : VsInv w l xs := by
 cases r with
 | nil => rfl
 | cons a b => exact ⟨_, _, rfl, a, b⟩
theorem getElem?_append_some {α : Type} {l δ : List α} {i : Nat} {a : α} (h : l[i]? = some a) : (l ++ δ)[i]? = some a := by
 rw [List.getElem?_append_left (List.getElem?_eq_some_iff.mp h).1]; exact h
theorem Step.notin {X : List Addr} {w w' : Wd} (S : Step X w w') {a : Addr} {o : Obj} (e : w.h.get? a = some o) (n : a ∉ w.ρ) : a ∉ w'.ρ := by
 obtain ⟨δ, hδ, hn⟩ := S.rho
 rw [hδ]
 intro m
 rcases List.mem_append.mp m with m | m
 ·exact n m
 ·rw [(hn a m).1] at e; cases e
theorem Step.at {X : List Addr} {w w' : Wd} (S : Step X w w') {i : Nat} {a : Addr} (e : w.ρ[i]? = some a) : w'.ρ[i]? = some a := by
 obtain ⟨δ, hδ, _⟩ := S.rho
 rw [hδ]; exact getElem?_append_some e
theorem NonSeq.hard {w : Wd} {X : List Addr} (h : NonSeq w X) {a : Addr} {o : Obj} (e : w.h.get? a = some o) (q : ¬ Soft o) : a ∉ X := fun m => q ((h a m).2 o e)
theorem not_soft_seq {o : Obj} (q : isSeq o) : ¬ Soft o := by
 obtain ⟨vs, n, q⟩ := q
 rintro (⟨v, h⟩ | ⟨es, n, h⟩ | ⟨vs, T, h, _⟩) <;> (exact nomatch q.symm.trans h)
theorem NonSeq.not {w : Wd} {X : List Addr} (h : NonSeq w X) {a : Addr} {o : Obj} (e : w.h.get? a = some o) (q : isSeq o) : a ∉ X := h.hard e (not_soft_seq q)
theorem NonSeq.nil {w : Wd} : NonSeq w [] := fun q_ m => nomatch m
theorem VRel.step {X : List Addr} {w w' : Wd} (hX : NonSeq w X) (S : Step X w w') {v x} (r : VRel w v x) : VRel w' v x :=
 @VRel.rec w (fun v x q_ => VRel w' v x) (fun l xs q_ => VRels w' l xs) .none .bool .int .flt .str
  (fun e n q_ r => .tup (S.keep _ _ e n (hX.not e ⟨_, _, rfl⟩)) (S.notin e n) r) (fun e n q_ r => .lst (S.keep _ _ e n (hX.not e ⟨_, _, rfl⟩)) (S.notin e n) r)
  (fun e => .ref (S.at e)) .val (fun {P _} p => .sem (P.mono hX S p)) .nil (fun q_ q_ a b => .cons a b) v x r
theorem VRels.all {w w' : Wd} {l : List V} : ∀ {xs}, VRels w l xs → (∀ v ∈ l, ∀ x, VRel w v x → VRel w' v x) → VRels w' l xs := by
 induction l with
 | nil => intro xs r _; obtain rfl := r.inv; exact .nil
 | cons v l ih =>
  intro xs r h
  obtain ⟨x, ys, rfl, a, b⟩ := r.inv
  exact .cons (h v (.head _) _ a) (ih b fun u m => h u (.tail _ m))
theorem VRels.step {X : List Addr} {w w' : Wd} (hX : NonSeq w X) (S : Step X w w') {l xs} (r : VRels w l xs) : VRels w' l xs := r.all fun q_ q_ q_ q => q.step hX S
theorem VRel.datG {w w' : Wd} (hg : ∀ {a o}, w.h.get? a = some o → w'.h.get? a = some o) (hn : ∀ {a o}, w.h.get? a = some o → isSeq o → a ∉ w.ρ → a ∉ w'.ρ) {v x} (r : VRel w v x) : v.dat = true → VRel w' v x :=
 @VRel.rec w (fun v x q_ => v.dat = true → VRel w' v x) (fun l xs q_ => datL l = true → VRels w' l xs) (fun q_ => .none) (fun b q_ => .bool b) (fun i t q_ => .int i t) (fun x t h q_ => .flt x t h) (fun x t q_ => .str x t)
  (fun e n q_ r h => .tup (hg e) (hn e ⟨_, _, rfl⟩ n) (r h)) (fun e n q_ r h => .lst (hg e) (hn e ⟨_, _, rfl⟩ n) (r h))
  (fun q_ h => nomatch h) (fun v q_ => .val v) (fun q_ h => nomatch h) (fun q_ => .nil) (fun q_ q_ a b h => .cons (a (Bool.and_eq_true_iff.mp h).1) (b (Bool.and_eq_true_iff.mp h).2)) v x r
theorem VRel.dat {w w' : Wd} (hs : w'.s = w.s) (hr : ∀ a ∈ w'.ρ, a ∈ w.ρ) {v x} (r : VRel w v x) (h : v.dat = true) : VRel w' v x :=
 r.datG (fun e => by show w'.s.heap.get? _ = _; rw [hs]; exact e) (fun q_ q_ n m => n (hr _ m)) h
theorem VRels.dat {w w' : Wd} (hs : w'.s = w.s) (hr : ∀ a ∈ w'.ρ, a ∈ w.ρ) {l vs} (r : VRels w l vs) (h : datL l = true) : VRels w' l vs := r.all fun v m q_ q => q.dat hs hr (datL_iff.mp h v m)
theorem VRel.step0 {w w' : Wd} (S : Step [] w w') {v x} (r : VRel w v x) : VRel w' v x := r.step .nil S
theorem VRels.step0 {w w' : Wd} (S : Step [] w w') {v x} (r : VRels w v x) : VRels w' v x := r.step .nil S
theorem Step.trans {X : List Addr} {a b c : Wd} (x : Step X a b) (y : Step X b c) : Step X a c := by
 obtain ⟨δ, h1, n1⟩ := x.rho
 obtain ⟨δ', h2, n2⟩ := y.rho
 refine ⟨⟨δ ++ δ', by rw [h2, h1, List.append_assoc], fun q m => ?_⟩, fun q o e n m => y.keep q o (x.keep q o e n m) (x.notin e n) m,
  fun q o e m => ?_, y.gens.trans x.gens, y.os.trans x.os, y.pin.trans x.pin, Nat.le_trans x.tk y.tk⟩
 ·rcases List.mem_append.mp m with m | m
  ·exact n1 q m
  ·refine ⟨?_, (n2 q m).2⟩
   cases e : a.h.get? q with
   | none => rfl
   | some o =>
    obtain ⟨o', e'⟩ := x.live q o e (n2 q m).2
    rw [(n2 q m).1] at e'; cases e'
 ·obtain ⟨o', e'⟩ := x.live q o e m
  exact y.live q o' e' m
theorem Step.wide {Y : List Addr} {a b : Wd} (x : Step [] a b) (h : ∀ q ∈ Y, ∃ o, a.h.get? q = some o) : Step Y a b := by
 obtain ⟨δ, h1, n1⟩ := x.rho
 refine ⟨⟨δ, h1, fun q m => ⟨(n1 q m).1, fun z => ?_⟩⟩, fun q o e n q_ => x.keep q o e n (fun z => nomatch z), fun q o e q_ => x.live q o e (fun z => nomatch z), x.gens, x.os, x.pin, x.tk⟩
 obtain ⟨o, ho⟩ := h q z
 rw [(n1 q m).1] at ho; cases ho
structure Ext (w w' : Wd) : Prop where
 rho : w'.ρ = w.ρ
 keep : ∀ a o, w.h.get? a = some o → w'.h.get? a = some o
 gens : w'.s.gens = w.s.gens
 os : w'.s.os = w.s.os
 pin : w'.π = w.π
 tk : w.s.toks ≤ w'.s.toks
theorem Ext.step {X : List Addr} {w w' : Wd} (x : Ext w w') : Step X w w' := ⟨⟨[], by rw [x.rho, List.append_nil], by simp⟩, fun a o e q_ q_ => x.keep a o e, fun a o e q_ => ⟨o, x.keep a o e⟩, x.gens, x.os, x.pin, x.tk⟩
theorem Ext.trans {a b c : Wd} (x : Ext a b) (y : Ext b c) : Ext a c := ⟨y.rho.trans x.rho, fun q o e => y.keep q o (x.keep q o e), y.gens.trans x.gens, y.os.trans x.os, y.pin.trans x.pin, Nat.le_trans x.tk y.tk⟩
theorem Ext.toksT {ρ π : List Addr} {s : Shared} {t : Nat} (h : s.toks ≤ t) : Ext ⟨ρ, π, s⟩ ⟨ρ, π, { s with toks := t }⟩ := ⟨rfl, fun q_ q_ e => e, rfl, rfl, rfl, h⟩
theorem Ext.toks {ρ π : List Addr} {s : Shared} : Ext ⟨ρ, π, s⟩ ⟨ρ, π, { s with toks := s.toks + 1 }⟩ := Ext.toksT (Nat.le_succ _)
theorem Ext.push {ρ π : List Addr} {s : Shared} (o : Obj) : Ext ⟨ρ, π, s⟩ ⟨ρ, π, { s with heap := s.heap.push o }⟩ := ⟨rfl, fun q_ q_ e => Heap.get?_push_of_some o e, rfl, rfl, rfl, Nat.le_refl _⟩
theorem VRel.ext {w w' : Wd} (x : Ext w w') {v y} (r : VRel w v y) : VRel w' v y := r.step0 x.step
theorem VRels.ext {w w' : Wd} (x : Ext w w') {v y} (r : VRels w v y) : VRels w' v y := r.step0 x.step
theorem VRels.length {w : Wd} {l : List V} : ∀ {vs}, VRels w l vs → vs.length = l.length := by
 induction l with
 | nil => intro vs r; obtain rfl := r.inv; rfl
 | cons v l ih => intro vs r; obtain ⟨x, ys, rfl, a, b⟩ := r.inv; exact congrArg (· + 1) (ih b)
theorem VRels.get {w : Wd} {l : List V} : ∀ {vs : List Value}, VRels w l vs → ∀ {i : Nat} {v : V}, l[i]? = some v → ∃ x, vs[i]? = some x ∧ VRel w v x := by
 induction l with
 | nil => intro vs r i v e; cases e
 | cons u l ih =>
  intro vs r i v e
  obtain ⟨x, ys, rfl, a, b⟩ := r.inv
  cases i with
  | zero => cases e; exact ⟨x, rfl, a⟩
  | succ i => exact ih b (i := i) e
theorem VRels.append {w : Wd} {l : List V} : ∀ {vs}, VRels w l vs → ∀ {l' vs'}, VRels w l' vs' → VRels w (l ++ l') (vs ++ vs') := by
 induction l with
 | nil => intro vs r l' vs' r'; obtain rfl := r.inv; exact r'
 | cons v l ih => intro vs r l' vs' r'; obtain ⟨x, ys, rfl, a, b⟩ := r.inv; exact .cons a (ih b r')
theorem VRels.drop {w : Wd} {l : List V} : ∀ {vs}, VRels w l vs → ∀ n, VRels w (l.drop n) (vs.drop n) := by
 induction l with
 | nil => intro vs r n; obtain rfl := r.inv; rw [List.drop_nil, List.drop_nil]; exact .nil
 | cons v l ih =>
  intro vs r n
  cases n with
  | zero => exact r
  | succ n => obtain ⟨x, ys, rfl, a, b⟩ := r.inv; exact ih b n
theorem VRels.take {w : Wd} {l : List V} : ∀ {vs}, VRels w l vs → ∀ n, VRels w (l.take n) (vs.take n) := by
 induction l with
 | nil => intro vs r n; obtain rfl := r.inv; rw [List.take_nil, List.take_nil]; exact .nil
 | cons v l ih =>
  intro vs r n
  obtain ⟨x, ys, rfl, a, b⟩ := r.inv
  cases n with
  | zero => exact .nil
  | succ n => exact .cons a (ih b n)
theorem VRels.inv0 {w : Wd} {xs} (r : VRels w [] xs) : xs = [] := by cases r; rfl
theorem VRels.inv1 {w : Wd} {a xs} (r : VRels w [a] xs) : ∃ x, xs = [x] ∧ VRel w a x := by
 cases r with | cons r s => cases s; exact ⟨_, rfl, r⟩
theorem VRels.inv2 {w : Wd} {a b xs} (r : VRels w [a, b] xs) : ∃ x y, xs = [x, y] ∧ VRel w a x ∧ VRel w b y := by
 cases r with | cons r s => obtain ⟨y, rfl, h⟩ := s.inv1; exact ⟨_, _, rfl, r, h⟩
theorem VRels.inv3 {w : Wd} {a b c xs} (r : VRels w [a, b, c] xs) : ∃ x y z, xs = [x, y, z] ∧ VRel w a x ∧ VRel w b y ∧ VRel w c z := by
 cases r with | cons r s => obtain ⟨y, z, rfl, h⟩ := s.inv2; exact ⟨_, _, _, rfl, r, h⟩
theorem VRels.inv4 {w : Wd} {a b c d xs} (r : VRels w [a, b, c, d] xs) : ∃ x y z u, xs = [x, y, z, u] ∧ VRel w a x ∧ VRel w b y ∧ VRel w c z ∧ VRel w d u := by
 cases r with | cons r s => obtain ⟨y, z, u, rfl, h⟩ := s.inv3; exact ⟨_, _, _, _, rfl, r, h⟩
structure OAsrt where
 P : Wd → Obj → Prop
 mono : ∀ {X w w' o}, NonSeq w X → Step X w w' → P w o → P w' o
 hard : ∀ {w o vs T}, P w o → o.data = .fields vs → o.cls = .type T → T ∉ iterCls
 top : Nat
 low : ∀ {w w' o}, Low top w w' → P w o → P w' o
 loose : ∀ {w o} {π : List Addr}, P w o → P ⟨w.ρ, π, w.s⟩ o
inductive HObj where
 | list (l : List V)
 | sem (P : OAsrt)
inductive ORel (w : Wd) (a : Addr) : HObj → Prop
 | list {l : List V} {vs : List Value} {n : Nat} : w.h.get? a = some (lstObj vs n) → VRels w l vs → datL l = true → ORel w a (.list l)
 | sem {P : OAsrt} {o : Obj} : w.h.get? a = some o → P.P w o → ORel w a (.sem P)
theorem ORel.move {X : List Addr} {w w' : Wd} (hX : NonSeq w X) (S : Step X w w') {a o} (ht : ∀ o, w.h.get? a = some o → w'.h.get? a = some o) : ORel w a o → ORel w' a o
 | .list e r d => .list (ht _ e) (r.step hX S) d
 | .sem (P := P) e r => .sem (ht _ e) (P.mono hX S r)
theorem ORel.ext {w w' : Wd} (x : Ext w w') {a o} (h : ORel w a o) : ORel w' a o := h.move .nil x.step (x.keep a)
theorem ORel.live {w : Wd} {a : Addr} {o : HObj} : ORel w a o → ∃ ob, w.h.get? a = some ob
 | .list e _ _ => ⟨_, e⟩
 | .sem e _ => ⟨_, e⟩
theorem ORel.hard {w : Wd} {a : Addr} {o : HObj} (h : ORel w a o) {ob : Obj} (e : w.h.get? a = some ob) {vs T} (hd : ob.data = .fields vs) (hc : ob.cls = .type T) : T ∉ iterCls := by
 cases h with
 | list e' _ _ => obtain rfl := Option.some.inj (e.symm.trans e'); cases hd
 | sem e' p => obtain rfl := Option.some.inj (e.symm.trans e'); exact OAsrt.hard _ p hd hc
noncomputable def Cl (H : List HObj) : Prop := ∀ (i : Nat) (P : OAsrt), H[i]? = some (HObj.sem P) → P.top ≤ H.length
structure BSt (C : Ct) (w : Wd) (H : List HObj) : Prop where
 stays : C.h₀.StaysIn w.h
 out : ∀ a ∈ w.ρ, C.h₀.get? a = none ∧ a ≠ sysModules
 nodup : w.ρ.Nodup
 len : w.ρ.length = H.length
 obj : ∀ (i : Nat) (a : Addr) (o : HObj), w.ρ[i]? = some a → H[i]? = some o → ORel w a o
 pins : ∀ a ∈ w.π, a ∉ w.ρ ∧ ∃ o, w.h.get? a = some o
 tok : C.tp → 0 < w.s.toks
 tops : Cl H
theorem BSt.ext {C : Ct} {w w' : Wd} {H} (B : BSt C w H) (x : Ext w w') : BSt C w' H :=
 ⟨fun b o e => x.keep b o (B.stays b o e), fun a m => B.out a (x.rho ▸ m), x.rho ▸ B.nodup, x.rho ▸ B.len, fun i a o e1 e2 => (B.obj i a o (x.rho ▸ e1) e2).ext x,
 fun a m => let ⟨h, o, e⟩ := B.pins a (x.pin ▸ m); ⟨x.rho ▸ h, o, x.keep a o e⟩, fun h => Nat.lt_of_lt_of_le (B.tok h) x.tk, B.tops⟩
theorem BSt.size3 {C : Ct} {w : Wd} {H : List HObj} (B : BSt C w H) : 3 < w.s.heap.objs.size := by
 obtain ⟨o, _, _, e, _⟩ := C.g
 exact Heap.lt_size (B.stays _ o e)
theorem BSt.X {C : Ct} {w : Wd} {H} (B : BSt C w H) : C.K.In w.h := C.X.keeps B.stays
theorem BSt.get {C : Ct} {w : Wd} {H} (B : BSt C w H) {i : Nat} {l : List V} (e : H[i]? = some (.list l)) : ∃ a vs n, w.ρ[i]? = some a ∧ w.h.get? a = some (lstObj vs n) ∧ VRels w l vs ∧ datL l = true := by
 have hl : i < w.ρ.length := by rw [B.len]; exact (List.getElem?_eq_some_iff.mp e).1
 have ha : w.ρ[i]? = some w.ρ[i] := List.getElem?_eq_getElem hl
 cases B.obj i _ _ ha e with
 | list e' r d => exact ⟨_, _, _, ha, e', r, d⟩
noncomputable abbrev fr (env : Env) : List Addr := env.locals :: env.cells.map (·.2)
noncomputable abbrev fw (env : Env) : List Addr := env.locals :: (env.cells.filter fun p => env.kindOf p.1 == some .cell).map (·.2)
theorem fw_fr {env : Env} {a : Addr} (h : a ∈ fw env) : a ∈ fr env := by
 rcases List.mem_cons.mp h with rfl | h
 ·exact .head _
 ·obtain ⟨p, hp, rfl⟩ := List.mem_map.mp h
  exact .tail _ (List.mem_map_of_mem (f := (·.2)) (List.mem_filter.mp hp).1)
noncomputable abbrev Loc := List (Str × V)
noncomputable def Slot (w : Wd) (env : Env) (m : Str → Option Value) (x : Str) (y : Value) : Prop :=
 (env.kindOf x = some .local ∧ m x = some y) ∨ ((env.kindOf x = some .cell ∨ env.kindOf x = some .free) ∧ ∃ c, env.cells.lookup x = some c ∧ w.h.IsCell c (some y))
structure FSt (C : Ct) (w : Wd) (env : Env) (σ : Loc) : Prop where
 own : ∀ a ∈ fr env, C.h₀.get? a = none
 glob : env.globals = mainGlobals
 bltn : env.builtins = builtinsNs
 kind : env.scope.kind = .function
 ns : ∃ m, w.h.Ns env.locals m ∧ ∀ x v, σ.lookup x = some v → ∃ y, Slot w env m x y ∧ VRel w v y
 out : env.locals ∉ w.ρ
 cells : ∀ p ∈ env.cells, p.2 ∉ w.ρ ∧ ∃ v₀, w.h.IsCell p.2 v₀
 nodup : (env.cells.map (·.2)).Nodup
 full : ∀ x, env.kindOf x = some .cell → ∃ c, env.cells.lookup x = some c
 pin : ∀ a ∈ fw env, a ∉ w.π
theorem mem_of_lookup {α : Type} {x : Str} {c : α} {l : List (Str × α)} (e : l.lookup x = some c) : (x, c) ∈ l := by
 induction l with
 | nil => cases e
 | cons p l ih =>
  obtain ⟨y, d⟩ := p
  cases q : x == y with
  | true => rw [List.lookup_cons, q] at e; obtain rfl := Option.some.inj e; rw [beq_iff_eq.mp q]; exact .head _
  | false => rw [List.lookup_cons, q] at e; exact .tail _ (ih e)
theorem Slot.step {X : List Addr} {w w' : Wd} {env : Env} {m x y} (S : Step X w w') (hX : ∀ a ∈ fr env, a ∉ X) (hc : ∀ p ∈ env.cells, p.2 ∉ w.ρ) (h : Slot w env m x y) : Slot w' env m x y := by
 rcases h with h | ⟨h, c, e, o, ho, hd⟩
 ·exact .inl h
 ·have hm : (x, c) ∈ env.cells := mem_of_lookup e
  exact .inr ⟨h, c, e, o, S.keep c o ho (hc _ hm) (hX c (.tail _ (List.mem_map_of_mem (f := (·.2)) hm))), hd⟩
theorem FSt.step {C : Ct} {X : List Addr} {w w' : Wd} {env : Env} {σ} (F : FSt C w env σ) (hX : NonSeq w X) (hf : ∀ a ∈ fr env, a ∉ X) (S : Step X w w') : FSt C w' env σ := by
 obtain ⟨m, ⟨o, es, ep, ho, r⟩, hm⟩ := F.ns
 refine ⟨F.own, F.glob, F.bltn, F.kind, ⟨m, ⟨o, es, ep, S.keep _ o ho F.out (hf _ (.head _)), r⟩, fun x v e => ?_⟩, S.notin ho F.out, fun p hp => ?_, F.nodup, F.full, S.pin ▸ F.pin⟩
 ·obtain ⟨y, h1, h2⟩ := hm x v e
  exact ⟨y, h1.step S hf fun p hp => (F.cells p hp).1, h2.step hX S⟩
 ·obtain ⟨n, v₀, o, ho, hd⟩ := F.cells p hp
  exact ⟨S.notin ho n, v₀, o, S.keep _ o ho n (hf _ (.tail _ (List.mem_map_of_mem (f := (·.2)) hp))), hd⟩
theorem FSt.step0 {C : Ct} {w w' : Wd} {env : Env} {σ} (F : FSt C w env σ) (S : Step [] w w') : FSt C w' env σ := F.step .nil (fun q_ q_ m => nomatch m) S
theorem FSt.ext {C : Ct} {w w' : Wd} {env : Env} {σ} (F : FSt C w env σ) (S : Ext w w') : FSt C w' env σ := F.step0 S.step
theorem FSt.nonSeq {C : Ct} {w : Wd} {env : Env} {σ} (F : FSt C w env σ) : NonSeq w (fw env) := by
 intro a m
 refine ⟨F.pin a m, fun o ho => ?_⟩
 replace m := fw_fr m
 rcases List.mem_cons.mp m with rfl | m
 ·obtain ⟨_, ⟨o', es, ep, ho', hd, _⟩, _⟩ := F.ns
  obtain rfl := Option.some.inj (ho.symm.trans ho'); exact .inr (.inl ⟨_, _, hd⟩)
 ·obtain ⟨p, hp, rfl⟩ := List.mem_map.mp m
  obtain ⟨_, v₀, o', ho', hd⟩ := F.cells p hp
  obtain rfl := Option.some.inj (ho.symm.trans ho'); exact .inl ⟨_, hd⟩
theorem FSt.weak {C : Ct} {w : Wd} {env : Env} {σ σ' : Loc} (F : FSt C w env σ) (h : ∀ x v, σ'.lookup x = some v → σ.lookup x = some v) : FSt C w env σ' := by
 obtain ⟨m, hn, hm⟩ := F.ns
 exact ⟨F.own, F.glob, F.bltn, F.kind, ⟨m, hn, fun x v e => hm x v (h x v e)⟩, F.out, F.cells, F.nodup, F.full, F.pin⟩
theorem FSt.alive {C : Ct} {w : Wd} {env : Env} {σ} (F : FSt C w env σ) : ∀ q ∈ fr env, ∃ o, w.h.get? q = some o := by
 intro a m
 rcases List.mem_cons.mp m with rfl | m
 ·obtain ⟨_, ⟨o', es, ep, ho', hd, _⟩, _⟩ := F.ns
  exact ⟨o', ho'⟩
 ·obtain ⟨p, hp, rfl⟩ := List.mem_map.mp m
  obtain ⟨_, v₀, o', ho', hd⟩ := F.cells p hp
  exact ⟨o', ho'⟩
theorem FSt.wide {C : Ct} {w w' : Wd} {env : Env} {σ} (F : FSt C w env σ) (S : Step [] w w') : Step (fw env) w w' := S.wide fun q m => F.alive q (fw_fr m)
structure Room (A : Around) (n : Nat) : Prop where
 hd : A.handled = none
 depth : A.depth + n ≤ 900
 units : A.units + 20 * n ≤ 9000
theorem Room.le {A : Around} {n m : Nat} (R : Room A n) (h : m ≤ n) : Room A m := ⟨R.hd, by have := R.depth; lia, by have := R.units; lia⟩
theorem Room.in1 {A : Around} {n : Nat} (R : Room A (n + 1)) : Room A.in1 n := ⟨R.hd, by have := R.depth; show A.depth + n ≤ 900; exact Nat.le_of_lt (by assumption), by have := R.units; show A.units + 1 + 20 * n ≤ 9000; lia⟩
theorem Room.deeper {A : Around} {n : Nat} {env : Env} (R : Room A (n + 1)) : Room (A.deeper env) n :=
 ⟨R.hd, by have := R.depth; show A.depth + 1 + n ≤ 900; lia, by have := R.units; show A.units + 3 + 20 * n ≤ 9000; lia⟩
theorem Room.lim {A : Around} {n : Nat} (R : Room A n) : A.depth < recursionLimit := by have := R.depth; show A.depth < 1000; lia
theorem Room.room {A : Around} {n : Nat} (R : Room A n) : A.units < cLine := by have := R.units; show A.units < 9900; lia
noncomputable def Ev (C : Ct) (n : Nat) (env : Env) (σ : Loc) (H : List HObj) (e : PySem.Expr) (H' : List HObj) (v : V) : Prop :=
 ∀ (A : Around) (w : Wd) (Q E : Value → Shared → Prop), Room A n → BSt C w H → FSt C w env σ →
  (∀ w' y, Step [] w w' → BSt C w' H' → FSt C w' env σ → VRel w' v y → Q y w'.s) → wpAny C.M A (eval e env) (fun v s => Q v s) E w.s
noncomputable def Fn (C : Ct) (n : Nat) (f : V) (args : List V) (kw : List (Str × V)) (H H' : List HObj) (v : V) : Prop :=
 ∀ (A : Around) (w : Wd) (Q E : Value → Shared → Prop) (g : Value) (xs : List Value) (ks : List Value), Room A n → BSt C w H → VRel w f g → VRels w args xs → VRels w (kw.map (·.2)) ks →
  (∀ w' y, Step [] w w' → BSt C w' H' → VRel w' v y → Q y w'.s) → wpAny C.M A (call g xs ((kw.map (·.1)).zip ks)) (fun v s => Q v s) E w.s
noncomputable def EvL (C : Ct) (n : Nat) (env : Env) (σ : Loc) (H : List HObj) (pos : Pos) (es : List PySem.Expr) (H' : List HObj) (vs : List V) : Prop :=
 ∀ (A : Around) (w : Wd) (Q : List Value → Shared → Prop) (E : Value → Shared → Prop), Room A n → BSt C w H → FSt C w env σ →
  (∀ w' ys, Step [] w w' → BSt C w' H' → FSt C w' env σ → VRels w' vs ys → Q ys w'.s) → wpAny C.M A (spliced (backTo pos (starEach es env))) Q E w.s
noncomputable def Tst (C : Ct) (n : Nat) (env : Env) (σ : Loc) (H : List HObj) (e : PySem.Expr) (H' : List HObj) (b : Bool) : Prop :=
 ∀ (A : Around) (w : Wd) (Q : Bool → Shared → Prop) (E : Value → Shared → Prop), Room A n → BSt C w H → FSt C w env σ →
  (∀ w', Step [] w w' → BSt C w' H' → FSt C w' env σ → Q b w'.s) → wpAny C.M A (isTrue e env (eval e env)) Q E w.s
inductive Out where
 | next (σ : Loc) (H : List HObj)
 | ret (v : V) (H : List HObj)
 | brk (σ : Loc) (H : List HObj)
 | cont (σ : Loc) (H : List HObj)
inductive ORes (C : Ct) (env : Env) (w : Wd) : Out → Flow → Prop
 | next {σ H} : BSt C w H → FSt C w env σ → ORes C env w (.next σ H) .next
 | ret {v H y} : BSt C w H → VRel w v y → ORes C env w (.ret v H) (.ret y)
 | brk {σ H} : BSt C w H → FSt C w env σ → ORes C env w (.brk σ H) .brk
 | cont {σ H} : BSt C w H → FSt C w env σ → ORes C env w (.cont σ H) .cont
noncomputable def OInv (C : Ct) (env : Env) (w : Wd) : Out → Flow → Prop
 | .next σ H, f => f = .next ∧ BSt C w H ∧ FSt C w env σ
 | .ret v H, f => ∃ y, f = .ret y ∧ BSt C w H ∧ VRel w v y
 | .brk σ H, f => f = .brk ∧ BSt C w H ∧ FSt C w env σ
 | .cont σ H, f => f = .cont ∧ BSt C w H ∧ FSt C w env σ
theorem ORes.inv {C : Ct} {env : Env} {w : Wd} {o : Out} {f : Flow} (h : ORes C env w o f) : OInv C env w o f := by
 cases h with
 | next a b => exact ⟨rfl, a, b⟩
 | ret a b => exact ⟨_, rfl, a, b⟩
 | brk a b => exact ⟨rfl, a, b⟩
 | cont a b => exact ⟨rfl, a, b⟩
noncomputable def Ex (C : Ct) (n : Nat) (env : Env) (σ : Loc) (H : List HObj) (ss : List PySem.Stmt) (o : Out) : Prop :=
 ∀ (A : Around) (w : Wd) (Q : Flow → Shared → Prop) (E : Value → Shared → Prop), Room A n → BSt C w H → FSt C w env σ →
  (∀ w' f, Step (fw env) w w' → ORes C env w' o f → Q f w'.s) → wpAny C.M A (execs ss env) Q E w.s
noncomputable def ExA (C : Ct) (n : Nat) (A : Around) (env : Env) (σ : Loc) (H : List HObj) (ss : List PySem.Stmt) (o : Out) : Prop :=
 ∀ (w : Wd) (Q : Flow → Shared → Prop) (E : Value → Shared → Prop), Room A n → BSt C w H → FSt C w env σ →
  (∀ w' f, Step (fw env) w w' → ORes C env w' o f → Q f w'.s) → wpAny C.M A (execs ss env) Q E w.s
noncomputable def EsA (C : Ct) (n : Nat) (A : Around) (env : Env) (σ : Loc) (H : List HObj) (st : PySem.Stmt) (o : Out) : Prop :=
 ∀ (w : Wd) (Q : Flow → Shared → Prop) (E : Value → Shared → Prop), Room A n → BSt C w H → FSt C w env σ →
  (∀ w' f, Step (fw env) w w' → ORes C env w' o f → Q f w'.s) → wpAny C.M A (exec st env) Q E w.s
theorem Ex.at {C : Ct} {n : Nat} {A : Around} {env : Env} {σ : Loc} {H : List HObj} {ss : List PySem.Stmt} {o : Out} (h : Ex C n env σ H ss o) : ExA C n A env σ H ss o := h A
section
section
variable {C : Ct} {n : Nat} {env : Env} {σ : Loc} {H H' H0 H1 H2 H3 : List HObj} {pos p : Pos} {k : Nat} {x : Str} {v v1 v2 v3 : V} {e e1 e2 e3 : PySem.Expr}
theorem Ev.int {i : Int} : Ev C n env σ H (.Constant (.int i) k pos) H (.int i) := fun q_ w q_ q_ q_ B F K => wpAny_Constant_int (K ⟨w.ρ, w.π, _⟩ _ Ext.toks.step (B.ext Ext.toks) (F.ext Ext.toks) (.int _ _))
theorem Ev.str {i : Str} : Ev C n env σ H (.Constant (.str i) k pos) H (.str i) := fun q_ w q_ q_ q_ B F K => wpAny_Constant_str (K ⟨w.ρ, w.π, _⟩ _ Ext.toks.step (B.ext Ext.toks) (F.ext Ext.toks) (.str _ _))
theorem Ev.flt {i : UInt64} (ht : C.tp := by trivial) : Ev C n env σ H (.Constant (.float i) k pos) H (.flt i) := fun q_ w q_ q_ q_ B F K => wpAny_Constant_float (K ⟨w.ρ, w.π, _⟩ _ Ext.toks.step (B.ext Ext.toks) (F.ext Ext.toks) (.flt _ _ (Nat.ne_of_gt (B.tok ht))))
theorem Ev.bool {b : Bool} : Ev C n env σ H (.Constant (.bool b) k pos) H (.bool b) := fun q_ w q_ q_ q_ B F K => wpAny_Constant_bool (K w _ (Step.refl _ _) B F (.bool _))
theorem Ev.none : Ev C n env σ H (.Constant .none k pos) H .none := fun q_ w q_ q_ q_ B F K => wpAny_Constant_none (K w _ (Step.refl _ _) B F .none)
noncomputable def plainN (x : Str) : Bool := !(x == ("__debug__" : Str)) && !(x == ("__classdict__" : Str))
theorem plainN_of {x : Str} (h : plainN x = true) : (x == ("__debug__" : Str)) = false ∧ (x == ("__classdict__" : Str)) = false :=
 have h := Bool.and_eq_true_iff.mp h
 ⟨by simpa using h.1, by simpa using h.2⟩
theorem Ev.loc (h : σ.lookup x = some v) (hd : plainN x = true := by decide) : Ev C n env σ H (.Name x pos) H v := by
 have hc := (plainN_of hd).2
 have hd := (plainN_of hd).1
 intro A w Q E R B F K
 obtain ⟨m, hn, hm⟩ := F.ns
 obtain ⟨y, hs, hv⟩ := hm x v h
 have q := K w _ (Step.refl _ _) B F hv
 refine wpAny_Name ?_ hd
 rcases hs with ⟨a, b⟩ | ⟨a | a, c, e, hcell⟩
 ·exact wpAny_loadName_local F.kind a hn b q
 ·exact wpAny_loadName_cell F.kind a e hcell q
 ·exact wpAny_loadName_free F.kind a e hcell q hc
theorem Ev.glob {y : Value} (h : nsIn C.K mainGlobals x = some (some y)) (hv : ∀ w, VRel w v y) (hx : env.kindOf x = some .globalImplicit) (hd : (x == ("__debug__" : Str)) = false) : Ev C n env σ H (.Name x pos) H v := by
 intro A w Q E R B F K
 refine Name_function_global F.kind hx (loadGlobal_global (mg := C.mg) ?_ (mg_of C.X C.g h) (K w _ (Step.refl _ _) B F (hv _))) hd
 rw [F.glob]; exact C.g.keeps B.stays
theorem Ev.globV {y : Value} (h : nsIn C.K mainGlobals x = some (some y)) (hx : env.kindOf x = some .globalImplicit) (hd : (x == ("__debug__" : Str)) = false) : Ev C n env σ H (.Name x pos) H (.val y) := Ev.glob h (fun q_ => .val _) hx hd
theorem Ev.blt {y : Value} (h : nsIn C.K mainGlobals x = some Option.none) (hb : bootBuiltins x = some y) (hn : x ≠ "__name__") (hx : env.kindOf x = some .globalImplicit) (hd : (x == ("__debug__" : Str)) = false) : Ev C n env σ H (.Name x pos) H (.val y) := by
 intro A w Q E R B F K
 refine Name_function_global F.kind hx (loadGlobal_builtin (mg := C.mg) (mb := C.mb) ?_ (mg_none_of C.X C.g h) ?_ ((C.blt x hn).trans hb) (K w _ (Step.refl _ _) B F (.val _))) hd
 ·rw [F.glob]; exact C.g.keeps B.stays
 ·rw [F.bltn]; exact C.b.keeps B.stays
noncomputable def Bin (C : Ct) (n : Nat) (op : Operator) (a b : V) (H H' : List HObj) (v : V) : Prop :=
 ∀ (A : Around) (w : Wd) (Q E : Value → Shared → Prop) (x y : Value), Room A n → BSt C w H → VRel w a x → VRel w b y →
  (∀ w' r, Step [] w w' → BSt C w' H' → VRel w' v r → Q r w'.s) → wpAny C.M A (binaryOp op x y) Q E w.s
noncomputable def Cmp (C : Ct) (n : Nat) (op : CmpOp) (a b : V) (H : List HObj) (v : Bool) : Prop :=
 ∀ (A : Around) (w : Wd) (Q E : Value → Shared → Prop) (x y : Value), Room A n → BSt C w H → VRel w a x → VRel w b y →
  (∀ w', Step [] w w' → BSt C w' H → Q (.bool v) w'.s) → wpAny C.M A (compareOp op x y) Q E w.s
noncomputable def Una (C : Ct) (n : Nat) (op : UnaryOp) (a : V) (H : List HObj) (v : V) : Prop :=
 ∀ (A : Around) (w : Wd) (Q E : Value → Shared → Prop) (x : Value), Room A n → BSt C w H → VRel w a x →
  (∀ w' r, Step [] w w' → BSt C w' H → VRel w' v r → Q r w'.s) → wpAny C.M A (unaryOp op x) Q E w.s
noncomputable def Tru (C : Ct) (n : Nat) (a : V) (H : List HObj) (b : Bool) : Prop :=
 ∀ (A : Around) (w : Wd) (Q : Bool → Shared → Prop) (E : Value → Shared → Prop) (x : Value), Room A n → BSt C w H → VRel w a x →
  (∀ w', Step [] w w' → BSt C w' H → Q b w'.s) → wpAny C.M A (truthy x) Q E w.s
theorem Ev.bin {op : Operator} (h1 : Ev C n env σ H e1 H1 v1) (h2 : Ev C n env σ H1 e2 H2 v2) (ho : Bin C n op v1 v2 H2 H3 v) : Ev C n env σ H (.BinOp e1 op e2 pos) H3 v := by
 intro A w Q E R B F K
 refine wpAny_BinOp (h1 A w _ E R B F fun w1 y1 S1 B1 F1 r1 => h2 A w1 _ E R B1 F1 fun w2 y2 S2 B2 F2 r2 => ?_)
 exact ho A w2 Q E y1 y2 R B2 (r1.step0 S2) r2 fun w3 y S3 B3 r => K w3 y (S1.trans (S2.trans S3)) B3 (F2.step0 S3) r
theorem Ev.una {op : UnaryOp} (h1 : Ev C n env σ H e1 H1 v1) (ho : Una C n op v1 H1 v) : Ev C n env σ H (.UnaryOp op e1 pos) H1 v := by
 intro A w Q E R B F K
 refine wpAny_UnaryOp (h1 A w _ E R B F fun w1 y1 S1 B1 F1 r1 => ?_)
 exact ho A w1 Q E y1 R B1 r1 fun w3 y S3 B3 r => K w3 y (S1.trans S3) B3 (F1.step0 S3) r
theorem Ev.cmp {op : CmpOp} {b : Bool} (h1 : Ev C n env σ H e1 H1 v1) (h2 : Ev C n env σ H1 e2 H2 v2) (ho : Cmp C n op v1 v2 H2 b) (hm : behindInMarks op e2 = false) : Ev C n env σ H (.Compare e1 [op] [e2] pos) H2 (.bool b) := by
 intro A w Q E R B F K
 refine wpAny_Compare1 (h1 A w _ E R B F fun w1 y1 S1 B1 F1 r1 => h2 A w1 _ E R B1 F1 fun w2 y2 S2 B2 F2 r2 => ?_) hm
 exact ho A w2 Q E y1 y2 R B2 (r1.step0 S2) r2 fun w3 S3 B3 => K w3 _ (S1.trans (S2.trans S3)) B3 (F2.step0 S3) (.bool b)
theorem Tst.cmp {op : CmpOp} {b : Bool} (h1 : Ev C n env σ H e1 H1 v1) (h2 : Ev C n env σ H1 e2 H2 v2) (ho : Cmp C n op v1 v2 H2 b) (hm : behindInMarks op e2 = false := by rfl) : Tst C n env σ H (.Compare e1 [op] [e2] pos) H2 b := by
 intro A w Q E R B F K
 refine wpAny_isTrue_Compare1 (h1 A w _ E R B F fun w1 y1 S1 B1 F1 r1 => h2 A w1 _ E R B1 F1 fun w2 y2 S2 B2 F2 r2 => ?_) hm
 exact ho A w2 _ E y1 y2 R B2 (r1.step0 S2) r2 fun w3 S3 B3 => wpAny_truthy_bool (K w3 (S1.trans (S2.trans S3)) B3 (F2.step0 S3))
theorem Tst.val {b : Bool} (h1 : Ev C n env σ H e H1 v) (ht : Tru C n v H1 b) (he : isTrue e env (eval e env) = (do let v ← eval e env; standAt e.pos; holding [v] (truthy v))) : Tst C n env σ H e H1 b := by
 intro A w Q E R B F K
 refine isTrue_plain (h1 A w _ E R B F fun w1 y1 S1 B1 F1 r1 => ?_) he
 exact ht A w1 Q E y1 R B1 r1 fun w2 S2 B2 => K w2 (S1.trans S2) B2 (F1.step0 S2)
theorem Ev.ifT (h : Tst C n env σ H e1 H1 true) (h2 : Ev C n env σ H1 e2 H2 v) : Ev C n env σ H (.IfExp e1 e2 e3 pos) H2 v := by
 intro A w Q E R B F K
 refine wpAny_IfExp (h A w _ E R B F fun w1 S1 B1 F1 => ?_)
 rw [if_pos rfl]
 exact h2 A w1 Q E R B1 F1 fun w2 y S2 B2 F2 r => K w2 y (S1.trans S2) B2 F2 r
theorem Ev.ifF (h : Tst C n env σ H e1 H1 false) (h2 : Ev C n env σ H1 e3 H2 v) : Ev C n env σ H (.IfExp e1 e2 e3 pos) H2 v := by
 intro A w Q E R B F K
 refine wpAny_IfExp (h A w _ E R B F fun w1 S1 B1 F1 => ?_)
 rw [if_neg Bool.false_ne_true]
 exact h2 A w1 Q E R B1 F1 fun w2 y S2 B2 F2 r => K w2 y (S1.trans S2) B2 F2 r
theorem EvL.nil : EvL C n env σ H pos [] H [] := fun q_ w q_ q_ q_ B F K => spliced_nil (K w [] (Step.refl _ _) B F .nil)
theorem EvL.cons {es : List PySem.Expr} {vs : List V} (h1 : Ev C n env σ H e H1 v) (h2 : EvL C n env σ H1 pos es H2 vs) (he : ∀ env : Env, starEach (e :: es) env = (false, eval e env) :: starEach es env := by exact fun q_ => rfl) : EvL C n env σ H pos (e :: es) H2 (v :: vs) := by
 intro A w Q E R B F K
 refine args_cons (h1 A w _ E R B F fun w1 y1 S1 B1 F1 r1 => h2 A w1 _ E R B1 F1 fun w2 ys S2 B2 F2 r2 => ?_) (he env)
 exact K w2 _ (S1.trans S2) B2 F2 (.cons (r1.step0 S2) r2)
noncomputable def EvK (C : Ct) (n : Nat) (env : Env) (σ : Loc) (H : List HObj) (pos : Pos) (ks : List Keyword) (H' : List HObj) (vs : List V) : Prop :=
 ∀ (A : Around) (w : Wd) (Q : List Value → Shared → Prop) (E : Value → Shared → Prop), Room A n → BSt C w H → FSt C w env σ →
  (∀ w' ys, Step [] w w' → BSt C w' H' → FSt C w' env σ → VRels w' vs ys → Q ys w'.s) → wpAny C.M A (evalAll ((backToKw pos (keywordEach ks env)).map (·.2))) Q E w.s
theorem EvK.nil : EvK C n env σ H pos [] H [] := fun q_ w q_ q_ q_ B F K => kwAll_nil (K w [] (Step.refl _ _) B F .nil)
theorem EvK.cons {x : Str} {ks : List Keyword} {vs : List V} (h1 : Ev C n env σ H e H1 v) (h2 : EvK C n env σ H1 pos ks H2 vs) : EvK C n env σ H pos (⟨some x, e, p⟩ :: ks) H2 (v :: vs) := by
 intro A w Q E R B F K
 refine kwAll_cons (h1 A w _ E R B F fun w1 y1 S1 B1 F1 r1 => h2 A w1 _ E R B1 F1 fun w2 ys S2 B2 F2 r2 => ?_)
 exact K w2 _ (S1.trans S2) B2 F2 (.cons (r1.step0 S2) r2)
noncomputable def EvA (C : Ct) (n : Nat) (env : Env) (σ : Loc) (H : List HObj) (pos : Pos) (es : List PySem.Expr) (ks : List Keyword) (H' : List HObj) (vs : List V) (kv : List (Str × V)) : Prop :=
 ∀ (A : Around) (w : Wd) (f : Value) (Q : Args → Shared → Prop) (E : Value → Shared → Prop), Room A n → BSt C w H → FSt C w env σ →
  (∀ w' ys zs, Step [] w w' → BSt C w' H' → FSt C w' env σ → VRels w' vs ys → VRels w' (kv.map (·.2)) zs → Q ⟨ys, (kv.map (·.1)).zip zs⟩ w'.s) →
   wpAny C.M A (evalArgs f true (backTo pos (starEach es env)) (backToKw pos (keywordEach ks env))) Q E w.s
theorem EvA.nil : EvA C n env σ H pos [] [] H [] [] := fun q_ w q_ q_ q_ q_ B F K => evalArgs_nil3 (K w [] [] (Step.refl _ _) B F .nil .nil)
theorem EvA.args {es : List PySem.Expr} {vs : List V} (h : EvL C n env σ H pos (e :: es) H' vs) (he : ∀ env : Env, starEach (e :: es) env = (false, eval e env) :: starEach es env := by exact fun q_ => rfl) : EvA C n env σ H pos (e :: es) [] H' vs [] := by
 intro A w f Q E R B F K
 have q := h A w (fun ys s => Q ⟨ys, []⟩ s) E R B F fun w1 ys S1 B1 F1 r1 => K w1 ys [] S1 B1 F1 r1 .nil
 rw [he env] at q ⊢
 exact evalArgs_plain q
theorem EvA.kw {es : List PySem.Expr} {ks : List Keyword} {vs : List V} {kv : List (Str × V)} (h : EvL C n env σ H pos (e :: es) H1 vs) (h2 : EvK C n env σ H1 pos ks H2 (kv.map (·.2)))
  (he : ∀ env : Env, starEach (e :: es) env = (false, eval e env) :: starEach es env) (hn : ∀ env : Env, (backToKw pos (keywordEach ks env)).filterMap (·.1) = kv.map (·.1)) (ha : ∀ env : Env, (backToKw pos (keywordEach ks env)).all (·.1.isSome) = true) :
  EvA C n env σ H pos (e :: es) ks H2 vs kv := by
 intro A w f Q E R B F K
 have q := h A w (fun ys s => wpAny C.M A (evalAll ((backToKw pos (keywordEach ks env)).map (·.2))) (fun zs s₂ => Q ⟨ys, ((backToKw pos (keywordEach ks env)).filterMap (·.1)).zip zs⟩ s₂) E s) E R B F fun w1 ys S1 B1 F1 r1 =>
  h2 A w1 _ E R B1 F1 fun w2 zs S2 B2 F2 r2 => by rw [hn env]; exact K w2 ys zs (S1.trans S2) B2 F2 (r1.step0 S2) r2
 rw [he env] at q ⊢
 exact evalArgs_kw (ha env) q
noncomputable def KpAt (C : Ct) (f : Value) (h : Heap) : Prop := ∃ k, (k = Keeper.frame ∨ k = Keeper.machine ∨ k = Keeper.boundFrame) ∧ Looks C.M h (keeperOf f) k
noncomputable def Kp (C : Ct) (f : V) : Prop := ∀ (w : Wd) (H : List HObj) (g : Value), BSt C w H → VRel w f g → KpAt C g w.h
theorem Kp.ofK {f : Value} (h : keepIn C.K f = true) : Kp C (.val f) := fun w H g B r => by obtain ⟨_, rfl⟩ := r.inv; exact keeps_K h w.h B.X
theorem Kp.blt {id : String} : Kp C (.val (.builtin id)) := fun q_ q_ q_ q_ r => by obtain ⟨_, rfl⟩ := r.inv; exact ⟨.machine, .inr (.inl rfl), Looks.of_pure rfl⟩
theorem Kp.typ {id : String} : Kp C (.val (.type id)) := fun q_ q_ q_ q_ r => by obtain ⟨_, rfl⟩ := r.inv; exact ⟨.machine, .inr (.inl rfl), Looks.of_pure rfl⟩
theorem Ev.call {f : V} {id : Str} {es : List PySem.Expr} {ks : List Keyword} {vs : List V} {kv : List (Str × V)} (hf : Ev C n env σ H (.Name id p) H1 f) (ha : EvA C n env σ H1 pos es ks H2 vs kv)
  (hc : Fn C n f vs kv H2 H3 v) (hk : Kp C f) (hp : ∀ env : Env, ((backTo pos (starEach es env)).any (·.1) || (backToKw pos (keywordEach ks env)).any (·.1.isNone)) = false := by exact fun q_ => rfl) : Ev C n env σ H (.Call (.Name id p) es ks pos) H3 v := by
 intro A w Q E R B F K
 refine wpAny_Call_Name_kw (hf A w _ E R B F fun w1 g S1 B1 F1 r1 => ?_)
 refine callWith_of (P := KpAt C g) (hp env) (fun q_ z => z) (ha A w1 g _ E R B1 F1 fun w2 ys zs S2 B2 F2 r2 r3 => ⟨hk w2 H2 g B2 (r1.step0 S2), ?_⟩)
 exact hc A w2 Q E g ys zs R B2 (r1.step0 S2) r2 r3 fun w3 y S3 B3 r => K w3 y (S1.trans (S2.trans S3)) B3 (F2.step0 S3) r
end
end
section
theorem bindL_out {kd : Str → Option NameKind} {x : Str} (bs : List (Str × Value)) (m : Str → Option Value) (h : x ∉ bs.map (·.1)) : bindL kd bs m x = m x := by
 induction bs generalizing m with
 | nil => rfl
 | cons p r ih =>
  unfold bindL
  rw [ih _ fun e => h (.tail _ e)]
  by_cases z : kd p.1 = some .local
  ·rw [if_pos z]; exact if_neg fun e => h (by rw [e]; exact .head _)
  ·rw [if_neg z]
theorem bindL_of {kd : Str → Option NameKind} {x : Str} {y : Value} (hk : kd x = some .local) (bs : List (Str × Value)) (m : Str → Option Value) (h : (x, y) ∈ bs) (hn : (bs.map (·.1)).Nodup) : bindL kd bs m x = some y := by
 induction bs generalizing m with
 | nil => cases h
 | cons p r ih =>
  have hn' := List.nodup_cons.mp hn
  unfold bindL
  rcases List.mem_cons.mp h with e | e
  ·subst e
   rw [bindL_out r _ hn'.1, if_pos hk, if_pos rfl]
  ·exact ih _ e hn'.2
theorem bindC_out {kd : Str → Option NameKind} {x : Str} (bs : List (Str × Value)) (m : Str → Option Value) (h : x ∉ bs.map (·.1)) : bindC kd bs m x = m x := by
 induction bs generalizing m with
 | nil => rfl
 | cons p r ih =>
  unfold bindC
  rw [ih _ fun e => h (.tail _ e)]
  by_cases z : kd p.1 = some .local
  ·rw [if_pos z]
  ·rw [if_neg z]; exact if_neg fun e => h (by rw [e]; exact .head _)
theorem bindC_of {kd : Str → Option NameKind} {x : Str} {y : Value} (hk : kd x = some .cell) (bs : List (Str × Value)) (m : Str → Option Value) (h : (x, y) ∈ bs) (hn : (bs.map (·.1)).Nodup) : bindC kd bs m x = some y := by
 induction bs generalizing m with
 | nil => cases h
 | cons p r ih =>
  have hn' := List.nodup_cons.mp hn
  unfold bindC
  rcases List.mem_cons.mp h with e | e
  ·subst e
   rw [bindC_out r _ hn'.1, if_neg (by rw [hk]; decide), if_pos rfl]
  ·exact ih _ e hn'.2
theorem lookup_of_mem' {α : Type} {x : Str} {y : α} {l : List (Str × α)} (h : (x, y) ∈ l) : ∃ z, l.lookup x = some z := by
 induction l with
 | nil => cases h
 | cons p l ih =>
  simp only [List.lookup]
  cases q : x == p.1 with
  | true => exact ⟨_, rfl⟩
  | false => exact ih ((List.mem_cons.mp h).resolve_left fun z => by rw [← z, beq_self_eq_true] at q; cases q)
theorem cells_has {x : Str} (names : List (Str × NameKind)) (n : Nat) (acc : List (Str × Addr)) (h : (x, NameKind.cell) ∈ names ∨ ∃ c, acc.lookup x = some c) : ∃ c, (cellsFrom n names acc).lookup x = some c := by
 induction names generalizing n acc with
 | nil => exact h.resolve_left fun z => nomatch z
 | cons p r ih =>
  unfold cellsFrom
  cases e : p.2 == NameKind.cell with
  | true =>
   rw [if_pos rfl]
   refine ih _ _ ?_
   cases q : x == p.1 with
   | true => exact .inr ⟨n, by rw [List.lookup_cons, q]⟩
   | false => exact h.imp (fun h => (List.mem_cons.mp h).resolve_left fun z => by rw [← z, beq_self_eq_true] at q; cases q) fun ⟨c, h⟩ => ⟨c, by rw [List.lookup_cons, q]; exact h⟩
  | false =>
   rw [if_neg (by decide)]
   exact ih _ _ (h.imp_left fun h => (List.mem_cons.mp h).resolve_left fun z => by rw [← z] at e; cases e)
noncomputable def namesOk (fd : FuncData) (ns : List Str) : Bool := ns.all fun x => fd.scope.names.lookup x == some .local || fd.scope.names.lookup x == some .cell
noncomputable def fdOk (fd : FuncData) : Bool := fd.globals == mainGlobals && fd.builtins == builtinsNs && fd.closure.isEmpty && !fd.scope.isCoroutine && !fd.scope.isGenerator && fd.scope.kind == .function && decide (((cellsFrom 0 fd.scope.names []).map (·.1)).Nodup)
noncomputable def Binds (C : Ct) (fd : FuncData) (args : List V) (kw : List (Str × V)) (ns : List Str) (vs : List V) : Prop :=
 ∀ (w : Wd) (xs ks : List Value), VRels w args xs → VRels w (kw.map (·.2)) ks → ∃ ys, VRels w vs ys ∧ Looks C.M C.h₀ (bindArgs fd ⟨xs, (kw.map (·.1)).zip ks⟩) (ns.zip ys)
noncomputable def FnC (C : Ct) (n : Nat) (f : V) (args : List V) (kw : List (Str × V)) (H H' : List HObj) (v : V) : Prop :=
 ∀ (A : Around) (w : Wd) (R : Result → Shared → Prop) (g : Value) (xs : List Value) (ks : List Value), Room A n → BSt C w H → VRel w f g → VRels w args xs → VRels w (kw.map (·.2)) ks →
  (∀ w' y, Step [] w w' → BSt C w' H' → VRel w' v y → R (.ok (.ret y)) w'.s) → codeAny C.M A (.call g ⟨xs, (kw.map (·.1)).zip ks⟩) R w.s
noncomputable def BindsX (C : Ct) (fd : FuncData) (args : List V) (kw : List (Str × V)) (ns : List Str) (vs : List V) (H H1 : List HObj) : Prop :=
 ∀ (A : Around) (w : Wd) (Q : List (Str × Value) → Shared → Prop) (E : Value → Shared → Prop) (xs ks : List Value), A.handled = none → BSt C w H → VRels w args xs → VRels w (kw.map (·.2)) ks →
  (∀ w' ys, Step [] w w' → BSt C w' H1 → VRels w' vs ys → Q (ns.zip ys) w'.s) → wpAny C.M A (bindArgs fd ⟨xs, (kw.map (·.1)).zip ks⟩) Q E w.s
inductive Fin : Out → V → List HObj → Prop
 | ret {v H} : Fin (.ret v H) v H
 | next {σ H} : Fin (.next σ H) .none H
theorem zip_slots {w : Wd} {ns : List Str} {vs : List V} {ys : List Value} (r : VRels w vs ys) {x : Str} {v : V} (e : (ns.zip vs).lookup x = some v) : ∃ y, (x, y) ∈ ns.zip ys ∧ VRel w v y := by
 induction ns generalizing vs ys with
 | nil => cases e
 | cons n ns ih =>
  cases vs with
  | nil => cases e
  | cons u vs =>
   obtain ⟨y, ys, rfl, a, r⟩ := r.inv
   rw [List.zip_cons_cons, List.lookup_cons] at e
   cases q : x == n with
   | true => rw [q] at e; cases e; rw [eq_of_beq q]; exact ⟨_, .head _, a⟩
   | false => rw [q] at e; exact (ih r e).imp fun y h => ⟨.tail _ h.1, h.2⟩
theorem map_fst_zip_sub {α : Type} (ns : List Str) (ys : List α) (x : Str) (h : x ∈ (ns.zip ys).map (·.1)) : x ∈ ns := by
 obtain ⟨p, m, rfl⟩ := List.mem_map.mp h
 exact (List.of_mem_zip m).1
theorem zip_nodup {α : Type} (ns : List Str) (ys : List α) (h : ns.Nodup) : ((ns.zip ys).map (·.1)).Nodup := by
 induction ns generalizing ys with
 | nil => exact List.nodup_nil
 | cons n ns ih =>
  cases ys with
  | nil => exact List.nodup_nil
  | cons y ys => exact List.nodup_cons.mpr ⟨fun m => (List.nodup_cons.mp h).1 (map_fst_zip_sub ns ys n m), ih ys (List.nodup_cons.mp h).2⟩
section
variable {C : Ct} {n : Nat} {env : Env} {σ σ' : Loc} {H H' H0 H1 H2 H3 : List HObj} {pos p : Pos} {k : Nat} {x : Str} {v v1 v2 v3 : V} {e e1 e2 e3 : PySem.Expr} {o : Out}
theorem FnC.fn {f : V} {args : List V} {kw : List (Str × V)} (h : FnC C n f args kw H H' v) : Fn C n f args kw H H' v := fun A w q_ q_ g xs ks R B rg rx rk K => wpAny_call (h A w _ g xs ks R B rg rx rk fun w' y S B' r => K w' y S B' r)
theorem Binds.wide {fd : FuncData} {args : List V} {kw : List (Str × V)} {ns : List Str} {vs : List V} (h : Binds C fd args kw ns vs) : BindsX C fd args kw ns vs H H := by
 intro A w Q E xs ks _ B rx rk K
 obtain ⟨ys, ry, look⟩ := h w xs ks rx rk
 exact (look.keeps B.stays).here (K w ys (Step.refl _ _) B ry)
theorem Step.out {env : Env} {w w1 w2 : Wd} (X1 : Ext w w1) (notX : ∀ a o, w.h.get? a = some o → a ∉ fw env) (S2 : Step (fw env) w1 w2) : Step [] w w2 := by
 refine ⟨?_, fun a o e n q_ => ?_, fun a o e q_ => ?_, S2.gens.trans X1.gens, S2.os.trans X1.os, S2.pin.trans X1.pin, Nat.le_trans X1.tk S2.tk⟩
 ·obtain ⟨δ, h1, h2⟩ := S2.rho
  refine ⟨δ, by rw [h1, X1.rho], fun a m => ⟨?_, fun z => nomatch z⟩⟩
  cases e : w.h.get? a with
  | none => rfl
  | some o => have := (h2 a m).1; rw [X1.keep a o e] at this; cases this
 ·exact S2.keep a o (X1.keep a o e) (by rw [X1.rho]; exact n) (notX a o e)
 ·exact S2.live a o (X1.keep a o e) (notX a o e)
theorem FnC.enter {f : Addr} {fd : FuncData} {oc : Value} {od : Option Addr} {osl : Array (Option Value)} {body : List Stmt} {args : List V} {kw : List (Str × V)} {ns : List Str} {vs : List V}
  (ho : C.K.lookup f = some ⟨oc, od, .func fd, osl⟩) (hb : fd.body = .stmts body) (hst : fdOk fd = true) (hcd : codeIn C.K fd.code fd.qualname = true) (hns : namesOk fd ns = true) (hnd : ns.Nodup)
  (hbind : BindsX C fd args kw ns vs H H1) {A : Around} {w0 : Wd} {R' : Result → Shared → Prop} {g : Value} {xs ks : List Value} (R : Room A (n + 1)) (B0 : BSt C w0 H) (rg : VRel w0 (.val (.ref f)) g) (rx : VRels w0 args xs) (rk : VRels w0 (kw.map (·.2)) ks)
  (K : ∀ (w w1 : Wd) (L : Addr), Step [] w0 w → Ext w w1 → L = w.s.heap.objs.size → (∀ a o, w.h.get? a = some o → a ∉ fw (callEnvC fd L f)) → BSt C w1 H1 → FSt C w1 (callEnvC fd L f) (ns.zip vs) →
   wpAny C.M (A.deeper (callEnvC fd L f)) (execs body (callEnvC fd L f)) (fun fl s₂ => R' (.ok (.ret (match fl with | .ret v => v | _ => .none))) s₂)
    (fun e s₂ => wpAny C.M (A.deeper (callEnvC fd L f)) (leaving (callEnvC fd L f) e) (fun q_ s'' => R' (.error e) s'') (fun e' s'' => R' (.error e') s'') s₂) w1.s) :
  codeAny C.M A (.call g ⟨xs, (kw.map (·.1)).zip ks⟩) R' w0.s := by
 obtain ⟨_, rfl⟩ := rg.inv
 simp only [fdOk, Bool.and_eq_true, beq_iff_eq, List.isEmpty_iff, Bool.not_eq_true', decide_eq_true_eq] at hst
 obtain ⟨⟨⟨⟨⟨⟨hgl, hbl⟩, hcl⟩, hco⟩, hgen⟩, hkd⟩, hcn⟩ := hst
 refine codeAny_call_function R.lim (B0.X _ _ ho) rfl hco hgen hb (codeRec_of B0.X hcd) (hbind A.in1 w0 _ _ xs ks R.hd B0 rx rk fun w ys S0 B ry => ?_)
 rw [hcl]
 refine wpAny_with_toks (Nat.le_refl _) (wpAny_newFunctionEnv_cells hkd (fun z hz => ?_) fun env he s' I htk => ?_)
 ·have hz' : z.1 ∈ ns := map_fst_zip_sub ns ys z.1 (List.mem_map_of_mem (f := (·.1)) hz)
  have := List.all_eq_true.mp hns z.1 hz'
  simp only [Bool.or_eq_true, beq_iff_eq] at this
  rcases this with h | h
  ·exact .inl h
  ·refine .inr ⟨h, ?_⟩
   obtain ⟨c', hc'⟩ := cells_has fd.scope.names (w.s.heap.objs.size + 1) [] (.inl (mem_of_lookup h))
   rw [hc']; rfl
 ·subst he
  obtain ⟨h₁, tk, hs', hk₁⟩ := I.done
  have X1 : Ext w ⟨w.ρ, w.π, s'⟩ := ⟨rfl, fun b o e => by rw [hs']; exact hk₁ b o e, by rw [hs'], by rw [hs'], rfl, htk⟩
  have ncell : ∀ p ∈ cellsFrom (w.s.heap.objs.size + 1) fd.scope.names [], w.s.heap.objs.size < p.2 := fun p hp => I.above p.1 p.2 hp
  have fresh : ∀ a, w.s.heap.objs.size ≤ a → w.h.get? a = none := fun a ha => by
   cases q : w.h.get? a with
   | none => rfl
   | some o => exact absurd (Heap.lt_size q) (Nat.not_lt.mpr ha)
  have live : ∀ a ∈ w.ρ, ∃ o, w.h.get? a = some o := fun a ha => by
   obtain ⟨i, hi⟩ := List.getElem?_of_mem ha
   have hl : i < H1.length := by rw [← B.len]; exact (List.getElem?_eq_some_iff.mp hi).1
   exact (B.obj i a _ hi (List.getElem?_eq_getElem hl)).live
  have notin : ∀ a, w.s.heap.objs.size ≤ a → a ∉ w.ρ := fun a ha m => by
   obtain ⟨o, ho⟩ := live a m
   rw [fresh a ha] at ho; cases ho
  have cellof : ∀ p ∈ cellsFrom (w.s.heap.objs.size + 1) fd.scope.names [], ∃ v₀, s'.heap.IsCell p.2 v₀ := fun p hp =>
   ⟨_, I.cell p.1 p.2 (lookup_of_mem_nodup (cellsFrom_names fd.scope.names 0 (w.s.heap.objs.size + 1) [] [] rfl ▸ hcn) hp)⟩
  have F1 : FSt C ⟨w.ρ, w.π, s'⟩ (callEnvC fd w.s.heap.objs.size f) (ns.zip vs) := by
   refine ⟨fun a m => ?_, hgl, hbl, hkd, ⟨_, I.toInCall.ns, fun x v e => ?_⟩, notin _ (Nat.le_refl _), fun p hp => ⟨notin _ (Nat.le_of_lt (ncell p hp)), cellof p hp⟩, ?_, fun x hx => ?_, fun a m q => ?_⟩
   ·cases q : C.h₀.get? a with
    | none => rfl
    | some o =>
     have lt := Heap.lt_size (B.stays a o q)
     exfalso
     rcases List.mem_cons.mp m with rfl | m
     ·exact Nat.lt_irrefl _ lt
     ·obtain ⟨p, hp, rfl⟩ := List.mem_map.mp m
      exact Nat.lt_asymm lt (ncell p hp)
   ·obtain ⟨y, hm, hv⟩ := zip_slots ry e
    refine ⟨y, ?_, hv.ext X1⟩
    have hx' : x ∈ ns := map_fst_zip_sub ns ys x (List.mem_map_of_mem (f := (·.1)) hm)
    have := List.all_eq_true.mp hns x hx'
    simp only [Bool.or_eq_true, beq_iff_eq] at this
    rcases this with h | h
    ·exact .inl ⟨h, bindL_of h _ _ hm (zip_nodup ns ys hnd)⟩
    ·obtain ⟨c', hc'⟩ := cells_has fd.scope.names (w.s.heap.objs.size + 1) [] (.inl (mem_of_lookup h))
     refine .inr ⟨.inl h, c', hc', ?_⟩
     have z := I.cell x c' hc'
     have z2 := bindC_of (kd := (callEnvC fd w.s.heap.objs.size f).kindOf) h (ns.zip ys) (fun q_ => Option.none) hm (zip_nodup ns ys hnd)
     exact z2 ▸ z
   ·have := I.apart
    exact List.pairwise_map.mpr this
   ·exact cells_has fd.scope.names (w.s.heap.objs.size + 1) [] (.inl (mem_of_lookup hx))
   ·obtain ⟨_, o, ho⟩ := B.pins a q
    have lt : a < w.s.heap.objs.size := Heap.lt_size ho
    rcases List.mem_cons.mp (fw_fr m) with rfl | m
    ·exact Nat.lt_irrefl _ lt
    ·obtain ⟨p, hp, rfl⟩ := List.mem_map.mp m
     exact Nat.lt_asymm lt (ncell p hp)
  refine ⟨(C.lim.keeps B.stays).keeps hk₁ |> fun z => by rw [hs']; exact z, codeAny_func ?_⟩
  have notX : ∀ a o, w.h.get? a = some o → a ∉ fw (callEnvC fd w.s.heap.objs.size f) := fun a o e m => by
   have lt : a < w.s.heap.objs.size := Heap.lt_size e
   rcases List.mem_cons.mp (fw_fr m) with rfl | m
   ·exact Nat.lt_irrefl _ lt
   ·obtain ⟨p, hp, rfl⟩ := List.mem_map.mp m
    exact Nat.lt_asymm lt (ncell p hp)
  exact K w ⟨w.ρ, w.π, s'⟩ w.s.heap.objs.size S0 X1 rfl notX (B.ext X1) F1
theorem FnC.ofDefE {f : Addr} {fd : FuncData} {oc : Value} {od : Option Addr} {osl : Array (Option Value)} {body : List Stmt} {args : List V} {kw : List (Str × V)} {ns : List Str} {vs : List V}
  (ho : C.K.lookup f = some ⟨oc, od, .func fd, osl⟩) (hb : fd.body = .stmts body) (hst : fdOk fd = true) (hcd : codeIn C.K fd.code fd.qualname = true) (hns : namesOk fd ns = true) (hnd : ns.Nodup)
  (hbind : BindsX C fd args kw ns vs H H1) (hbody : ∀ env : Env, env.scope = fd.scope → env.code = fd.code → env.qual = fd.qualname ++ ".<locals>." → Ex C n env (ns.zip vs) H1 body o) (hfin : Fin o v H') : FnC C (n + 1) (.val (.ref f)) args kw H H' v := by
 intro A w0 R' g xs ks R B0 rg rx rk K
 refine FnC.enter ho hb hst hcd hns hnd hbind R B0 rg rx rk fun w w1 L S0 X1 eL notX B1 F1 => ?_
 have q := hbody (callEnvC fd L f) rfl rfl rfl (A.deeper (callEnvC fd L f)) w1 (fun fl s₂ => R' (.ok (.ret (match fl with | .ret v => v | _ => .none))) s₂)
  (fun e s₂ => wpAny C.M (A.deeper (callEnvC fd L f)) (leaving (callEnvC fd L f) e) (fun q_ s'' => R' (.error e) s'') (fun e' s'' => R' (.error e') s'') s₂)
  R.deeper B1 F1 fun w2 fl S2 O2 => ?_
 ·exact wpAny_mono q (fun fl s₂ z => by cases fl <;> exact z) fun q_ q_ z => z
 ·have S := S2.out X1 notX
  cases hfin with
  | ret => obtain ⟨_, rfl, B2, r2⟩ := O2.inv; exact K w2 _ (S0.trans S) B2 r2
  | next => obtain ⟨rfl, B2, _⟩ := O2.inv; exact K w2 _ (S0.trans S) B2 .none
theorem FnC.ofDef {f : Addr} {fd : FuncData} {oc : Value} {od : Option Addr} {osl : Array (Option Value)} {body : List Stmt} {args : List V} {kw : List (Str × V)} {ns : List Str} {vs : List V}
  (ho : C.K.lookup f = some ⟨oc, od, .func fd, osl⟩) (hb : fd.body = .stmts body) (hst : fdOk fd = true) (hcd : codeIn C.K fd.code fd.qualname = true) (hns : namesOk fd ns = true) (hnd : ns.Nodup)
  (hbind : BindsX C fd args kw ns vs H H1) (hbody : ∀ env : Env, env.scope = fd.scope → Ex C n env (ns.zip vs) H1 body o) (hfin : Fin o v H') : FnC C (n + 1) (.val (.ref f)) args kw H H' v :=
 FnC.ofDefE ho hb hst hcd hns hnd hbind (fun env h q_ q_ => hbody env h) hfin
theorem Fn.ofDef {f : Addr} {fd : FuncData} {oc : Value} {od : Option Addr} {osl : Array (Option Value)} {body : List Stmt} {args : List V} {kw : List (Str × V)} {ns : List Str} {vs : List V}
  (ho : C.K.lookup f = some ⟨oc, od, .func fd, osl⟩) (hb : fd.body = .stmts body) (hst : fdOk fd = true) (hcd : codeIn C.K fd.code fd.qualname = true) (hns : namesOk fd ns = true) (hnd : ns.Nodup)
  (hbind : Binds C fd args kw ns vs) (hbody : ∀ env : Env, env.scope = fd.scope → Ex C n env (ns.zip vs) H body o) (hfin : Fin o v H') : Fn C (n + 1) (.val (.ref f)) args kw H H' v := (FnC.ofDef ho hb hst hcd hns hnd (Binds.wide hbind) hbody hfin).fn
end
end
section
section
variable {C : Ct} {n : Nat} {env : Env} {σ σ' σ1 : Loc} {H H' H0 H1 H2 H3 : List HObj} {pos p : Pos} {k : Nat} {x : Str} {v v1 v2 v3 : V} {e e1 e2 e3 : PySem.Expr} {o : Out}
theorem BSt.turn {X : List Addr} {w w' : Wd} (B : BSt C w H) (hX : NonSeq w X) (S : Step X w w') (hr : w'.ρ = w.ρ) (ho : ∀ a o, C.h₀.get? a = some o → a ∉ X) (ht : ∀ a ∈ w.ρ, ∀ o, w.h.get? a = some o → w'.h.get? a = some o) : BSt C w' H := by
 refine ⟨fun b o e => S.keep b o (B.stays b o e) (fun m => by rw [(B.out b m).1] at e; cases e) (ho b o e), fun a m => B.out a (hr ▸ m), hr ▸ B.nodup, hr ▸ B.len, fun i a o e1 e2 => ?_, fun a m => ?_, fun h => Nat.lt_of_lt_of_le (B.tok h) S.tk, B.tops⟩
 ·rw [hr] at e1
  exact (B.obj i a o e1 e2).move hX S (ht a (List.mem_of_getElem? e1))
 ·rw [S.pin] at m
  obtain ⟨h1, o, e⟩ := B.pins a m
  exact ⟨hr ▸ h1, o, S.keep a o e h1 fun z => (hX a z).1 m⟩
theorem Step.more {X Y : List Addr} {w w' : Wd} (S : Step X w w') (hr : w'.ρ = w.ρ) (h : ∀ a ∈ X, a ∈ Y) : Step Y w w' :=
 ⟨⟨[], by simp [hr], by simp⟩, fun a o e n m => S.keep a o e n fun z => m (h a z), fun a o e m => S.live a o e fun z => m (h a z), S.gens, S.os, S.pin, S.tk⟩
noncomputable def Sto (env : Env) (x : Str) : Prop := env.kindOf x = some .local ∨ env.kindOf x = some .cell
theorem name_of_cell {env : Env} (hn : (env.cells.map (·.2)).Nodup) {x y : Str} {c : Addr} (h1 : (x, c) ∈ env.cells) (h2 : (y, c) ∈ env.cells) : x = y := by
 have h : env.cells.Pairwise fun a b => a.2 ≠ b.2 := List.pairwise_map.mp hn
 exact name_of_addr h h1 h2
set_option tactic.hygienic true in
theorem storeL {A : Around} {w : Wd} {y : Value} {Q : Unit → Shared → Prop} {E : Value → Shared → Prop} (B : BSt C w H) (F : FSt C w env σ) (r : VRel w v y) (hl : env.kindOf x = some .local)
  (K : ∀ w', Step [env.locals] w w' → w'.ρ = w.ρ → BSt C w' H → FSt C w' env ((x, v) :: σ) → Q () w'.s) : wpAny C.M A (storeName env x y) Q E w.s := by
 obtain ⟨m, hn, hm⟩ := F.ns
 refine wpAny_storeName_local hl hn (fun h' hn' hs => ?_) (by rw [F.kind]; rfl)
 have S : Step [env.locals] w ⟨w.ρ, w.π, { w.s with heap := h', toks := w.s.toks + 1 }⟩ :=
  ⟨⟨[], by simp, by simp⟩, fun a o e q_ m => (hs.2 a fun q => m (q ▸ .head _)).trans e, fun a o e q_ => by
   by_cases q : a = env.locals
   ·subst q
    obtain ⟨o', _, _, ho', _⟩ := hn'
    exact ⟨o', ho'⟩
   ·exact ⟨o, (hs.2 a q).trans e⟩, rfl, rfl, rfl, Nat.le_succ _⟩
 have hNS : NonSeq w [env.locals] := fun a m => by rw [List.mem_singleton.mp m]; exact F.nonSeq _ (.head _)
 have B' := B.turn hNS S rfl (fun a o e m => by rw [List.mem_singleton.mp m, F.own _ (.head _)] at e; cases e) fun a m o e => (hs.2 a fun q => F.out (q ▸ m)).trans e
 refine K _ S rfl B' ⟨F.own, F.glob, F.bltn, F.kind, ⟨_, hn', fun z u e => ?_⟩, F.out, fun p hp => ?_, F.nodup, F.full, F.pin⟩
 ·simp only [List.lookup] at e
  split at e
  ·rename_i q; cases e
   rw [beq_iff_eq.mp q]
   exact ⟨y, .inl ⟨hl, if_pos rfl⟩, r.step hNS S⟩
  ·rename_i q
   obtain ⟨y', h1, h2⟩ := hm z u e
   refine ⟨y', ?_, h2.step hNS S⟩
   rcases h1 with ⟨h, h'⟩ | ⟨h, c, e, o, ho, hd⟩
   ·exact .inl ⟨h, (if_neg (by intro z; rw [z] at q; simp at q)).trans h'⟩
   ·refine .inr ⟨h, c, e, o, (hs.2 c fun q => ?_).trans ho, hd⟩
    obtain ⟨oL, _, _, hoL, hdL, _⟩ := hn
    rw [q] at ho; obtain rfl := Option.some.inj (hoL.symm.trans ho); exact nomatch hdL.symm.trans hd
 ·obtain ⟨h1, v₀, o, ho, hd⟩ := F.cells p hp
  refine ⟨h1, v₀, o, (hs.2 p.2 fun q => ?_).trans ho, hd⟩
  obtain ⟨oL, _, _, hoL, hdL, _⟩ := hn
  rw [q] at ho; obtain rfl := Option.some.inj (hoL.symm.trans ho); exact nomatch hdL.symm.trans hd
set_option tactic.hygienic true in
theorem storeC {A : Around} {w : Wd} {y : Value} {Q : Unit → Shared → Prop} {E : Value → Shared → Prop} (B : BSt C w H) (F : FSt C w env σ) (r : VRel w v y) (hl : env.kindOf x = some .cell)
  (K : ∀ w', Step (fw env) w w' → BSt C w' H → FSt C w' env ((x, v) :: σ) → Q () w'.s) : wpAny C.M A (storeName env x y) Q E w.s := by
 obtain ⟨m, hn, hm⟩ := F.ns
 obtain ⟨c, hc⟩ := F.full x hl
 have hmem : (x, c) ∈ env.cells := mem_of_lookup hc
 obtain ⟨cn, v₀, hcell⟩ := F.cells _ hmem
 refine wpAny_storeName_cell F.kind hl hc hcell fun h' hv hs => ?_
 have inX : c ∈ fw env := .tail _ (List.mem_map_of_mem (f := (·.2)) (List.mem_filter.mpr ⟨hmem, by rw [hl]; rfl⟩))
 have S : Step (fw env) w ⟨w.ρ, w.π, { w.s with heap := h' }⟩ :=
  ⟨⟨[], by simp, by simp⟩, fun a o e q_ m => (hs.2 a fun q => m (q ▸ inX)).trans e, fun a o e q_ => by
   by_cases q : a = c
   ·subst q
    obtain ⟨o', ho', _⟩ := hv
    exact ⟨o', ho'⟩
   ·exact ⟨o, (hs.2 a q).trans e⟩, rfl, rfl, rfl, Nat.le_refl _⟩
 have B' := B.turn F.nonSeq S rfl (fun a o e m => by rw [F.own a (fw_fr m)] at e; cases e) fun a m o e => (hs.2 a fun q => cn (q ▸ m)).trans e
 have lc : env.locals ≠ c := fun q => by
  obtain ⟨oL, _, _, hoL, hdL, _⟩ := hn
  obtain ⟨o, ho, hd⟩ := hcell
  rw [q] at hoL
  have ho' : w.s.heap.get? c = some o := ho
  obtain rfl := Option.some.inj (ho'.symm.trans hoL); exact nomatch hdL.symm.trans hd
 refine K _ S B' ⟨F.own, F.glob, F.bltn, F.kind, ⟨m, hn.sameBut hs lc, fun z u e => ?_⟩, F.out, fun p hp => ?_, F.nodup, F.full, F.pin⟩
 ·simp only [List.lookup] at e
  split at e
  ·rename_i q; cases e
   rw [beq_iff_eq.mp q]
   exact ⟨y, .inr ⟨.inl hl, c, hc, hv⟩, r.step F.nonSeq S⟩
  ·rename_i q
   obtain ⟨y', h1, h2⟩ := hm z u e
   refine ⟨y', ?_, h2.step F.nonSeq S⟩
   rcases h1 with h | ⟨h, c', e', hcc⟩
   ·exact .inl h
   ·refine .inr ⟨h, c', e', hcc.sameBut hs fun qq => ?_⟩
    subst qq
    have := name_of_cell F.nodup (mem_of_lookup e') hmem
    rw [this] at q; simp at q
 ·obtain ⟨h1, v₁, hcc⟩ := F.cells p hp
  refine ⟨h1, ?_⟩
  by_cases q : p.2 = c
  ·exact ⟨_, q ▸ hv⟩
  ·exact ⟨v₁, hcc.sameBut hs q⟩
theorem store {A : Around} {w : Wd} {y : Value} {Q : Unit → Shared → Prop} {E : Value → Shared → Prop} (B : BSt C w H) (F : FSt C w env σ) (r : VRel w v y) (hk : Sto env x)
  (K : ∀ w', Step (fw env) w w' → BSt C w' H → FSt C w' env ((x, v) :: σ) → Q () w'.s) : wpAny C.M A (storeName env x y) Q E w.s := by
 rcases hk with hl | hl
 ·exact storeL B F r hl fun w' S hr B' F' => K w' (S.more hr fun a m => by rw [List.mem_singleton.mp m]; exact .head _) B' F'
 ·exact storeC B F r hl K
noncomputable def Hold (env : Env) (X : List Addr) (x : Str) : Prop := (env.kindOf x = some .local ∧ X = [env.locals]) ∨ (Sto env x ∧ X = fw env)
theorem storeH {X : List Addr} {A : Around} {w : Wd} {y : Value} {Q : Unit → Shared → Prop} {E : Value → Shared → Prop} (B : BSt C w H) (F : FSt C w env σ) (r : VRel w v y) (hk : Hold env X x)
  (K : ∀ w', Step X w w' → BSt C w' H → FSt C w' env ((x, v) :: σ) → Q () w'.s) : wpAny C.M A (storeName env x y) Q E w.s := by
 rcases hk with ⟨hl, rfl⟩ | ⟨hl, rfl⟩
 ·exact storeL B F r hl fun w' S q_ B' F' => K w' S B' F'
 ·exact store B F r hl K
end
end
section
noncomputable def Es (C : Ct) (n : Nat) (env : Env) (σ : Loc) (H : List HObj) (st : PySem.Stmt) (o : Out) : Prop :=
 ∀ (A : Around) (w : Wd) (Q : Flow → Shared → Prop) (E : Value → Shared → Prop), Room A n → BSt C w H → FSt C w env σ →
  (∀ w' f, Step (fw env) w w' → ORes C env w' o f → Q f w'.s) → wpAny C.M A (exec st env) Q E w.s
section
variable {C : Ct} {n : Nat} {env : Env} {σ σ' σ1 : Loc} {H H' H0 H1 H2 H3 : List HObj} {pos p pos' : Pos} {k : Nat} {x : Str} {v v1 v2 v3 : V} {e e1 e2 e3 : PySem.Expr} {o : Out} {st : PySem.Stmt} {rest body orelse : List PySem.Stmt}
theorem Ex.nil : Ex C n env σ H [] (.next σ H) := fun q_ w q_ q_ q_ B F K => wpAny_execs_nil (K w _ (Step.refl _ _) (.next B F))
theorem Ex.cons (h1 : Es C n env σ H st (.next σ1 H1)) (h2 : Ex C n env σ1 H1 rest o) : Ex C n env σ H (st :: rest) o := by
 intro A w Q E R B F K
 refine wpAny_execs_cons (h1 A w _ E R B F fun w1 f S1 O1 => ?_)
 obtain ⟨rfl, B1, F1⟩ := O1.inv
 exact h2 A w1 Q E R B1 F1 fun w2 f S2 O2 => K w2 f (S1.trans S2) O2
theorem Ex.stop (h1 : Es C n env σ H st o) (ho : ∀ σ H, o ≠ .next σ H) : Ex C n env σ H (st :: rest) o := by
 intro A w Q E R B F K
 refine wpAny_execs_cons (h1 A w _ E R B F fun w1 f S1 O1 => ?_)
 have q := K w1 f S1 O1
 cases O1 with
 | next B1 F1 => exact absurd rfl (ho _ _)
 | ret => exact q
 | brk => exact q
 | cont => exact q
theorem Ex.one (h1 : Es C n env σ H st o) : Ex C n env σ H [st] o := by
 intro A w Q E R B F K
 refine wpAny_execs_cons (h1 A w _ E R B F fun w1 f S1 O1 => ?_)
 have q := K w1 f S1 O1
 cases O1 with
 | next B1 F1 => exact wpAny_execs_nil q
 | ret => exact q
 | brk => exact q
 | cont => exact q
theorem FSt.swide {w w1 w2 : Wd} (F : FSt C w env σ) (S1 : Step [] w w1) (S2 : Step (fw env) w1 w2) : Step (fw env) w w2 := (F.wide S1).trans S2
theorem Es.assign (h : Ev C n env σ H e H1 v) (hk : Sto env x) (hs : swapsWith e (some (.Name x pos')) pos.line env = pure false) : Es C n env σ H (.Assign [.Name x pos'] e pos) (.next ((x, v) :: σ) H1) := by
 intro A w Q E R B F K
 refine wpAny_Assign_Name (h A w _ E R B F fun w1 y1 S1 B1 F1 r1 => ?_) hs
 exact store B1 F1 r1 hk fun w2 S2 B2 F2 => K w2 _ (F.swide S1 S2) (.next B2 F2)
theorem Es.ret (h : Ev C n env σ H e H1 v) : Es C n env σ H (.Return (some e) pos) (.ret v H1) := by
 intro A w Q E R B F K
 exact wpAny_Return_some (h A w _ E R B F fun w1 y1 S1 B1 F1 r1 => K w1 _ (F.wide S1) (.ret B1 r1))
theorem Es.expr (h : Ev C n env σ H e H1 v) (hi : interactive env = false) (hs : swapsWith e none pos.line env = pure false) : Es C n env σ H (.Expr e pos) (.next σ H1) := by
 intro A w Q E R B F K
 exact wpAny_Expr_any (h A w _ E R B F fun w1 y1 S1 B1 F1 r1 => K w1 _ (F.wide S1) (.next B1 F1)) hi hs
theorem Es.ifT (h : Tst C n env σ H e H1 true) (hb : Ex C n env σ H1 body o) : Es C n env σ H (.If e body orelse pos) o := by
 intro A w Q E R B F K
 refine wpAny_If (h A w _ E R B F fun w1 S1 B1 F1 => ?_)
 rw [if_pos rfl]
 exact hb A w1 Q E R B1 F1 fun w2 f S2 O2 => K w2 f (F.swide S1 S2) O2
theorem Es.ifF (h : Tst C n env σ H e H1 false) (hb : Ex C n env σ H1 orelse o) : Es C n env σ H (.If e body orelse pos) o := by
 intro A w Q E R B F K
 refine wpAny_If (h A w _ E R B F fun w1 S1 B1 F1 => ?_)
 rw [if_neg Bool.false_ne_true]
 exact hb A w1 Q E R B1 F1 fun w2 f S2 O2 => K w2 f (F.swide S1 S2) O2
noncomputable def Itm (C : Ct) (n : Nat) (slice : PySem.Expr) (a i : V) (H : List HObj) (v : V) : Prop :=
 ∀ (A : Around) (w : Wd) (Q E : Value → Shared → Prop) (x y : Value) (value : PySem.Expr), Room A n → BSt C w H → VRel w a x → VRel w i y →
  (∀ w' r, Step [] w w' → BSt C w' H → VRel w' v r → Q r w'.s) → wpAny C.M A (subscriptTail value slice x y) Q E w.s
theorem Ev.sub (h1 : Ev C n env σ H e1 H1 v1) (h2 : Ev C n env σ H1 e2 H2 v2) (ho : Itm C n e2 v1 v2 H2 v) : Ev C n env σ H (.Subscript e1 e2 pos) H2 v := by
 intro A w Q E R B F K
 refine Subscript_ (h1 A w _ E R B F fun w1 y1 S1 B1 F1 r1 => h2 A w1 _ E R B1 F1 fun w2 y2 S2 B2 F2 r2 => ?_)
 exact ho A w2 Q E y1 y2 e1 R B2 (r1.step0 S2) r2 fun w3 y S3 B3 r => K w3 y (S1.trans (S2.trans S3)) B3 (F2.step0 S3) r
noncomputable def Plain1 (slice : PySem.Expr) : Prop := ∀ o i, subscripted slice false o i = operate [o, i] (getItem o i)
theorem isTup_of {w : Wd} {a : Addr} {vs : List Value} {n : Nat} (e : w.h.get? a = some (tupObj vs n)) : IsTup w.h a vs.toArray := ⟨_, e, rfl, n, rfl⟩
theorem isList_of {w : Wd} {a : Addr} {vs : List Value} {n : Nat} (e : w.h.get? a = some (lstObj vs n)) : w.h.IsList a vs.toArray := ⟨_, e, rfl, n, rfl⟩
theorem Itm.tup {l : List V} {i : Int} {j : Nat} (hlo : -(2 ^ 63) ≤ i) (hhi : i < 2 ^ 63) (hj : seqIndex? i l.length = some j) (hx : l[j]? = some v) (hp : Plain1 e) : Itm C n e (.tup l) (.int i) H v := by
 intro A w Q E x y value R B rx ry K
 cases rx with
 | tup ho hn r =>
  obtain ⟨_, rfl⟩ := ry.inv
  obtain ⟨z, h1, h2⟩ := r.get hx
  exact item_tupleT (isTup_of ho) hlo hhi (by rw [r.length]; exact hj) h1 (K w z (Step.refl _ _) B h2) (hp _ _)
inductive Lsy (H : List HObj) : V → List V → Prop
 | lst {l} : Lsy H (.lst l) l
 | ref {i l} : H[i]? = some (.list l) → Lsy H (.ref i) l
theorem Lsy.at {w : Wd} {a : V} {l : List V} {x : Value} (B : BSt C w H) (h : Lsy H a l) (r : VRel w a x) : ∃ q vs m, x = .ref q ∧ w.h.get? q = some (lstObj vs m) ∧ VRels w l vs := by
 cases h with
 | lst => obtain ⟨_, _, _, rfl, e, _, r⟩ := r.inv; exact ⟨_, _, _, rfl, e, r⟩
 | ref h =>
  cases r with
  | ref e =>
   obtain ⟨a, vs, m, h1, h2, h3, _⟩ := B.get h
   obtain rfl := Option.some.inj (e.symm.trans h1)
   exact ⟨_, _, _, rfl, h2, h3⟩
theorem Itm.lst {a : V} {l : List V} {i : Int} (hl : Lsy H a l) (h0 : 0 ≤ i) (hhi : i < 2 ^ 63) (hx : l[i.toNat]? = some v) (hp : Plain1 e) : Itm C n e a (.int i) H v := by
 intro A w Q E x y value R B rx ry K
 obtain ⟨q, vs, m, rfl, ho, r⟩ := hl.at B rx
 obtain ⟨_, rfl⟩ := ry.inv
 obtain ⟨z, h1, h2⟩ := r.get hx
 exact tail_any (isList_of ho).typeIs slot_list_getitem.lookup (wpAny_getItem_list (isList_of ho) h0 hhi (by simpa using h1) (K w z (Step.refl _ _) B h2)) (hp _ _)
noncomputable def TopDict (C : Ct) (a : Addr) (es : Array DictEntry) : Prop := ∃ n, C.K.lookup a = some ⟨.type "dict", Option.none, .dict es n, #[]⟩ ∧ KeysLit C.w.params es.toList
theorem TopDict.map {a : Addr} {es : Array DictEntry} (h : TopDict C a es) {w : Wd} (B : BSt C w H) : w.h.MapOf (strKind C.prog C.w) a (fun k => findBy Value.isStrOf es k) := by
 obtain ⟨m, h1, h2⟩ := h
 exact mapOf_K B.X h1 h2
theorem Itm.dict {a : Addr} {es : Array DictEntry} {x : Str} {y : Value} (hd : TopDict C a es) (hf : findBy Value.isStrOf es x = some y) (hv : ∀ w, VRel w v y) (hp : Plain1 e) : Itm C n e (.val (.ref a)) (.str x) H v := by
 intro A w Q E x y value R B rx ry K
 obtain ⟨_, rfl⟩ := rx.inv; obtain ⟨_, rfl⟩ := ry.inv
 have hm := hd.map B
 exact tail_any hm.typeIs slot_dict_getitem.lookup (wpAny_getItem_of (strKind_is _ _ _ _) hm hf (K ⟨w.ρ, w.π, _⟩ _ Ext.toks.step (B.ext Ext.toks) (hv _))) (hp _ _)
theorem Cmp.inDict {a : Addr} {es : Array DictEntry} {x : Str} (hd : TopDict C a es) (ha : (a == sysModules) = false) : Cmp C n .In (.str x) (.val (.ref a)) H (findBy Value.isStrOf es x).isSome := by
 intro A w Q E x y R B rx ry K
 obtain ⟨_, rfl⟩ := rx.inv; obtain ⟨_, rfl⟩ := ry.inv
 exact wpAny_in_of (strKind_is _ _ _ _) ha (hd.map B) (K ⟨w.ρ, w.π, _⟩ Ext.toks.step (B.ext Ext.toks))
theorem Bin.addInt {a b : Int} : Bin C n .Add (.int a) (.int b) H H (.int (a + b)) := by
 intro A w Q E x y R B rx ry K
 obtain ⟨_, rfl⟩ := rx.inv; obtain ⟨_, rfl⟩ := ry.inv
 exact P.add_int (K ⟨w.ρ, w.π, _⟩ _ Ext.toks.step (B.ext Ext.toks) (.int _ _))
theorem Tru.str {x : Str} (h : x.length < 2 ^ 60) : Tru C n (.str x) H ((x.length : Int) != 0) := by
 intro A w Q E y R B rx K
 obtain ⟨_, rfl⟩ := rx.inv
 exact P.truthy_str (by lia) (K ⟨w.ρ, w.π, _⟩ (Ext.toksT (t := w.s.toks + 1 + 1) (by lia)).step (B.ext (Ext.toksT (t := w.s.toks + 1 + 1) (by lia))))
end
end
section
section
variable {prog : Program} {w : World} {A : Around} {E : Value → Shared → Prop} {R : Result → Shared → Prop} {s : Shared}
noncomputable def ForGoal (prog : Program) (w : World) (A : Around) (R : Result → Shared → Prop) (target : PySem.Expr) (it : Value) (body orelse : List PySem.Stmt) (env : Env) (N : Shared → Prop) (s : Shared) : Prop :=
 wpAny (model prog w) A (pyNext it) (fun r s₁ => match r with
   | none => wpAny (model prog w) A (execs orelse env) (fun f s₃ => R (.ok f) s₃) (notedBy (model prog w) A env fun e s' => R (.error e) s') s₁
   | some v => wpAny (model prog w) A (letOwnedTupleGo target it v) (fun q_ s₁ => wpAny (model prog w) A (assign target env v) (fun q_ s₂ => wpAny (model prog w) A (execs body env) (fun f s₃ => match f with
     | .next | .cont => N s₃
     | .brk => R (.ok .next) s₃
     | .ret v => R (.ok (.ret v)) s₃) (notedBy (model prog w) A env fun e s' => R (.error e) s') s₂) (notedBy (model prog w) A env fun e s' => R (.error e) s') s₁) (notedBy (model prog w) A env fun e s' => R (.error e) s') s₁)
   (notedBy (model prog w) A env fun e s' => R (.error e) s') s
theorem codeAny_forLoopL {target it body orelse env} (I : Nat → Shared → Prop)
  (turn : ∀ n s, I n s → ForGoal prog w A R target it body orelse env (fun s => ∃ m, m < n ∧ I m s) s)
  (n : Nat) (h : I n s) : codeAny (model prog w) A (.forLoop target it body orelse env) R s := by
 refine codeAny_loop' rfl I (fun n s hI => ?_) n h
 show wpAny _ _ ((forTurn target it body orelse env).onRaise (fun x => do noteFrame x env; theTreesLotGoes x)) _ _ s
 refine wpAny_noted ?_
 simp only [forTurn]
 refine wpAny_bind (wpAny_standAt (wpAny_bind (wpAny_onRaise (wpAny_mono (turn n s hI) (fun r s₁ h₁ => ?_) fun q_ q_ h' => wpAny_standAt h'))))
 cases r with
 | none => exact wpAny_pure (.inr ⟨rfl, codeAny_block h₁⟩)
 | some v =>
  refine wpAny_bind (wpAny_mono h₁ (fun q_ s₁ h₁ => ?_) fun q_ q_ h' => h')
  refine wpAny_bind (wpAny_mono h₁ (fun q_ s₂ h₂ => wpAny_bind (wpAny_mono h₂ (fun f s₃ h₃ => ?_) fun q_ q_ h' => h')) fun q_ q_ h' => h')
  cases f with
  | next => exact wpAny_pure (.inl ⟨rfl, h₃⟩)
  | cont => exact wpAny_pure (.inl ⟨rfl, h₃⟩)
  | brk => exact wpAny_pure h₃
  | ret v => exact wpAny_pure h₃
noncomputable def WhGoal (prog : Program) (w : World) (A : Around) (R : Result → Shared → Prop) (test : PySem.Expr) (body orelse : List PySem.Stmt) (env : Env) (N : Shared → Prop) (s : Shared) : Prop :=
 wpAny (model prog w) A (isTrue test env (eval test env)) (fun b s₂ =>
    if b then wpAny (model prog w) A (execs body env) (fun f s₃ => match f with
      | .next | .cont => N s₃
      | .brk => R (.ok .next) s₃
      | .ret v => R (.ok (.ret v)) s₃) (notedBy (model prog w) A env fun e s' => R (.error e) s') s₂
    else wpAny (model prog w) A (execs orelse env) (fun f s₃ => R (.ok f) s₃) (notedBy (model prog w) A env fun e s' => R (.error e) s') s₂)
    (notedBy (model prog w) A env fun e s' => R (.error e) s') s
theorem codeAny_whileLoopL {test body orelse env} (I : Nat → Shared → Prop) (turn : ∀ n s, I n s → WhGoal prog w A R test body orelse env (fun s => ∃ m, m < n ∧ I m s) s) (n : Nat) (h : I n s) : codeAny (model prog w) A (.whileLoop test body orelse env) R s :=
 codeAny_whileLoop I turn n h
end
inductive WhC (C : Ct) (n : Nat) (env : Env) (test : PySem.Expr) (body : List PySem.Stmt) (W : Loc → List HObj → Out → Prop) (σ : Loc) (H : List HObj) (o : Out) : Prop
 | stop (σ' : Loc) (H1 : List HObj) : (∀ x v, σ'.lookup x = some v → σ.lookup x = some v) → Tst C n env σ' H test H1 false → o = .next σ' H1 → WhC C n env test body W σ H o
 | turn (σ' : Loc) (H1 : List HObj) (σ1 : Loc) (H2 : List HObj) : (∀ x v, σ'.lookup x = some v → σ.lookup x = some v) → Tst C n env σ' H test H1 true → Ex C n env σ' H1 body (.next σ1 H2) → W σ1 H2 o → WhC C n env test body W σ H o
noncomputable def Wh (C : Ct) (n : Nat) (env : Env) (test : PySem.Expr) (body : List PySem.Stmt) (k : Nat) : Loc → List HObj → Out → Prop :=
 Nat.rec (motive := fun q_ => Loc → List HObj → Out → Prop) (WhC C n env test body fun q_ q_ q_ => False) (fun q_ W => WhC C n env test body W) k
section
variable {C : Ct} {n : Nat} {env : Env} {test : PySem.Expr} {body : List PySem.Stmt} {k : Nat} {σ σ' σ1 : Loc} {H H1 H2 : List HObj} {o : Out} {W : Loc → List HObj → Out → Prop}
theorem Wh.stop (h : Tst C n env σ H test H1 false) : Wh C n env test body k σ H (.next σ H1) := by
 cases k <;> exact .stop σ H1 (fun q_ q_ z => z) h rfl
theorem Wh.turn (h : Tst C n env σ H test H1 true) (hb : Ex C n env σ H1 body (.next σ1 H2)) (hr : Wh C n env test body k σ1 H2 o) : Wh C n env test body (k + 1) σ H o :=
 WhC.turn σ H1 σ1 H2 (fun q_ q_ z => z) h hb hr
theorem WhC.weak (h : ∀ x v, σ'.lookup x = some v → σ.lookup x = some v) (hr : WhC C n env test body W σ' H o) : WhC C n env test body W σ H o := by
 cases hr with
 | stop τ H1 a b c => exact .stop τ H1 (fun x v z => h x v (a x v z)) b c
 | turn τ H1 σ1 H2 a b c d => exact .turn τ H1 σ1 H2 (fun x v z => h x v (a x v z)) b c d
theorem Wh.weak (h : ∀ x v, σ'.lookup x = some v → σ.lookup x = some v) (hr : Wh C n env test body k σ' H o) : Wh C n env test body k σ H o := by
 cases k <;> exact WhC.weak h hr
end
structure NextOk (C : Ct) (n : Nat) (Ok : List HObj → Prop) (T : PySem.Expr → Bool) (it : Value) (X : List Addr) (l : List V) (P : Nat → Wd → Prop) (P' : Nat → Value → Wd → Prop) : Prop where
 self : ∀ A w Q E, Room A n → P 0 w → Q it w.s → wpAny C.M A (pyIter it) Q E w.s
 fld : ∀ i w, P i w → ∀ a ∈ X, ∃ o vs T, w.h.get? a = some o ∧ o.data = .fields vs ∧ o.cls = .type T ∧ T ∈ iterCls
 fld' : ∀ i y w, P' i y w → ∀ a ∈ X, ∃ o vs T, w.h.get? a = some o ∧ o.data = .fields vs ∧ o.cls = .type T ∧ T ∈ iterCls
 mono : ∀ i w w' Y, P i w → Step Y w w' → NonSeq w Y → (∀ a ∈ X, a ∉ Y) → (∀ a ∈ X, a ∉ w.ρ) → P i w'
 item : ∀ i v A w H Q E, l[i]? = some v → Room A n → BSt C w H → Ok H → P i w → NonSeq w X → (∀ w' y, Step X w w' → w'.ρ = w.ρ → (∀ a o, w.h.get? a = some o → a ∉ X → w'.h.get? a = some o) → P' (i + 1) y w' → VRel w' v y → Q (some y) w'.s) → wpAny C.M A (pyNext it) Q E w.s
 fin : ∀ A w H Q E, Room A n → BSt C w H → Ok H → P l.length w → NonSeq w X → (∀ w', Step X w w' → w'.ρ = w.ρ → (∀ a o, w.h.get? a = some o → a ∉ X → w'.h.get? a = some o) → Q none w'.s) → wpAny C.M A (pyNext it) Q E w.s
 own : ∀ i A w H target v y Q E, T target = true → l[i]? = some v → P' (i + 1) y w → NonSeq w X → BSt C w H → VRel w v y → (∀ w', Step X w w' → w'.ρ = w.ρ → (∀ a o, w.h.get? a = some o → a ∉ X → w'.h.get? a = some o) → P (i + 1) w' → Q () w'.s) → wpAny C.M A (letOwnedTupleGo target it y) Q E w.s
noncomputable def Src (C : Ct) (n : Nat) (x : V) (H : List HObj) (Ok : List HObj → Prop) (l : List V) : Prop :=
 ∀ (A : Around) (w : Wd) (y : Value) (Q E : Value → Shared → Prop), Room A n → BSt C w H → VRel w x y →
  (∀ w' it X P P', Step [] w w' → BSt C w' H → (∀ a ∈ X, w.h.get? a = none) → NextOk C n Ok (fun q_ => true) it X l P P' → P 0 w' → Q it w'.s) → wpAny C.M A (pyIter y) Q E w.s
noncomputable def SrcE (C : Ct) (n : Nat) (env : Env) (σ : Loc) (H : List HObj) (iter : PySem.Expr) (H1 : List HObj) (Ok : List HObj → Prop) (T : PySem.Expr → Bool) (l : List V) : Prop :=
 ∀ (A : Around) (w : Wd) (Q E : Value → Shared → Prop), Room A n → BSt C w H → FSt C w env σ →
  (∀ w1 w' it X P P', Step [] w w1 → BSt C w1 H1 → FSt C w1 env σ → Step [] w1 w' → BSt C w' H1 → (∀ a ∈ X, w1.h.get? a = none) → NextOk C n Ok T it X l P P' → P 0 w' → Q it w'.s) →
   wpAny C.M A (eval iter env) (fun y s => wpAny C.M A (pyIter y) Q E s) E w.s
theorem SrcE.of {C : Ct} {n : Nat} {env : Env} {σ : Loc} {H : List HObj} {iter : PySem.Expr} {H1 : List HObj} {Ok : List HObj → Prop} {l : List V} {v : V} (he : Ev C n env σ H iter H1 v) (hs : Src C n v H1 Ok l) : SrcE C n env σ H iter H1 Ok (fun q_ => true) l := by
 intro A w Q E R B F K
 exact he A w _ E R B F fun w1 y1 S1 B1 F1 r1 => hs A w1 y1 _ E R B1 r1 fun w2 it X P P' S2 B2 hX N p2 => K w1 w2 it X P P' S1 B1 F1 S2 B2 hX N p2
noncomputable def Ast (C : Ct) (n : Nat) (env : Env) (X : List Addr) (t : PySem.Expr) (v : V) (σ : Loc) (H : List HObj) (σ' : Loc) : Prop :=
 ∀ (A : Around) (w : Wd) (y : Value) (Q : Unit → Shared → Prop) (E : Value → Shared → Prop), Room A n → BSt C w H → FSt C w env σ → VRel w v y →
  (∀ w', Step X w w' → BSt C w' H → FSt C w' env σ' → Q () w'.s) → wpAny C.M A (assign t env y) Q E w.s
noncomputable abbrev As (C : Ct) (n : Nat) (env : Env) (t : PySem.Expr) (v : V) (σ : Loc) (H : List HObj) (σ' : Loc) : Prop := Ast C n env (fw env) t v σ H σ'
inductive FoC (C : Ct) (n : Nat) (A : Around) (env : Env) (target : PySem.Expr) (body : List PySem.Stmt) (Ok : List HObj → Prop) (v : V) (W : Loc → List HObj → Out → Prop) (σ : Loc) (H : List HObj) (o : Out) : Prop
 | go (σ' σ0 σ1 : Loc) (H1 : List HObj) : (∀ x v, σ'.lookup x = some v → σ.lookup x = some v) → Ok H → As C n env target v σ' H σ0 → ExA C n A env σ0 H body (.next σ1 H1) → W σ1 H1 o → FoC C n A env target body Ok v W σ H o
 | ret (σ' σ0 : Loc) (u : V) (H1 : List HObj) : (∀ x v, σ'.lookup x = some v → σ.lookup x = some v) → Ok H → As C n env target v σ' H σ0 → ExA C n A env σ0 H body (.ret u H1) → o = .ret u H1 → FoC C n A env target body Ok v W σ H o
noncomputable def FoA (C : Ct) (n : Nat) (A : Around) (env : Env) (target : PySem.Expr) (body : List PySem.Stmt) (Ok : List HObj → Prop) (l : List V) : Loc → List HObj → Out → Prop :=
 List.rec (motive := fun q_ => Loc → List HObj → Out → Prop) (fun σ H o => ∃ σ', (∀ x v, σ'.lookup x = some v → σ.lookup x = some v) ∧ Ok H ∧ o = .next σ' H) (fun v q_ W => FoC C n A env target body Ok v W) l
noncomputable def Fo (C : Ct) (n : Nat) (env : Env) (target : PySem.Expr) (body : List PySem.Stmt) (Ok : List HObj → Prop) (l : List V) (σ : Loc) (H : List HObj) (o : Out) : Prop := ∀ A, FoA C n A env target body Ok l σ H o
section
variable {C : Ct} {n : Nat} {env : Env} {target : PySem.Expr} {body : List PySem.Stmt} {Ok : List HObj → Prop} {l : List V} {σ σ' σ0 σ1 : Loc} {H H1 : List HObj} {o : Out} {v u : V}
theorem FoA.nil {A : Around} (h : Ok H) : FoA C n A env target body Ok [] σ H (.next σ H) := ⟨σ, fun q_ q_ z => z, h, rfl⟩
theorem FoA.cons {A : Around} (a : Ok H) (b : As C n env target v σ H σ0) (c : ExA C n A env σ0 H body (.next σ1 H1)) (d : FoA C n A env target body Ok l σ1 H1 o) : FoA C n A env target body Ok (v :: l) σ H o :=
 FoC.go σ σ0 σ1 H1 (fun q_ q_ z => z) a b c d
theorem Fo.nil (h : Ok H) : Fo C n env target body Ok [] σ H (.next σ H) := fun q_ => .nil h
theorem Fo.cons (a : Ok H) (b : As C n env target v σ H σ0) (c : Ex C n env σ0 H body (.next σ1 H1)) (d : Fo C n env target body Ok l σ1 H1 o) : Fo C n env target body Ok (v :: l) σ H o := fun A => .cons a b c.at (d A)
theorem Fo.ret (a : Ok H) (b : As C n env target v σ H σ0) (c : Ex C n env σ0 H body (.ret u H1)) : Fo C n env target body Ok (v :: l) σ H (.ret u H1) := fun q_ => .ret σ σ0 u H1 (fun q_ q_ z => z) a b c.at rfl
theorem FoA.nilv {A : Around} (h : FoA C n A env target body Ok [] σ H o) : ∃ σ', (∀ x v, σ'.lookup x = some v → σ.lookup x = some v) ∧ Ok H ∧ o = .next σ' H := h
theorem FoA.uncons {A : Around} (h : FoA C n A env target body Ok (v :: l) σ H o) : FoC C n A env target body Ok v (FoA C n A env target body Ok l) σ H o := h
theorem FoC.weak {A : Around} {W : Loc → List HObj → Out → Prop} (a : ∀ x v, σ'.lookup x = some v → σ.lookup x = some v) (h : FoC C n A env target body Ok v W σ' H o) : FoC C n A env target body Ok v W σ H o := by
 cases h with
 | go τ σ0 σ1 H1 b c d e f => exact .go τ σ0 σ1 H1 (fun x v z => a x v (b x v z)) c d e f
 | ret τ σ0 u H1 b c d e f => exact .ret τ σ0 u H1 (fun x v z => a x v (b x v z)) c d e f
theorem Fo.weak (a : ∀ x v, σ'.lookup x = some v → σ.lookup x = some v) (h : Fo C n env target body Ok l σ' H o) : Fo C n env target body Ok l σ H o := fun A => by
 have h := h A
 cases l with
 | nil =>
  obtain ⟨τ, c, d⟩ := h.nilv
  exact ⟨τ, fun x v z => a x v (c x v z), d⟩
 | cons v l => exact FoC.weak a h.uncons
end
section
variable {C : Ct} {n : Nat} {env : Env} {σ σ' σ1 : Loc} {H H' H0 H1 H2 H3 : List HObj} {pos p pos' : Pos} {k : Nat} {x : Str} {v v1 v2 v3 : V} {e e1 e2 e3 : PySem.Expr} {o : Out} {st : PySem.Stmt} {rest body orelse : List PySem.Stmt}
theorem while_go {test : PySem.Expr} {A : Around} {R' : Result → Shared → Prop} {Nx : Shared → Prop} {w w1 : Wd} (R : Room A n) (K : ∀ w' f, Step (fw env) w w' → ORes C env w' o f → R' (.ok f) w'.s) (S1 : Step (fw env) w w1) (B1 : BSt C w1 H) (F1 : FSt C w1 env σ)
  (h : Wh C n env test body k σ H o) (hN : ∀ j w' σ' H', j < k → Step (fw env) w w' → BSt C w' H' → FSt C w' env σ' → Wh C n env test body j σ' H' o → Nx w'.s) : WhGoal C.prog C.w A R' test body [] env Nx w1.s := by
 cases k with
 | zero =>
  cases (show WhC C n env test body (fun q_ q_ q_ => False) σ H o from h) with
  | turn _ _ _ _ _ _ _ z => exact z.elim
  | stop τ H2 a ht ho =>
  subst ho
  exact ht A w1 _ _ R B1 (F1.weak a) fun w2 S2 B2 F2 => wpAny_execs_nil (K w2 _ (S1.trans (F1.wide S2)) (.next B2 F2))
 | succ j =>
  cases (show WhC C n env test body (Wh C n env test body j) σ H o from h) with
  | stop τ H2 a ht ho =>
   subst ho
   exact ht A w1 _ _ R B1 (F1.weak a) fun w2 S2 B2 F2 => wpAny_execs_nil (K w2 _ (S1.trans (F1.wide S2)) (.next B2 F2))
  | turn τ H2 σ2 H3 a ht hb hr =>
   exact ht A w1 _ _ R B1 (F1.weak a) fun w2 S2 B2 F2 => hb A w2 _ _ R B2 F2 fun w3 f S3 O3 => by
    obtain ⟨rfl, B3, F3⟩ := O3.inv
    exact hN j w3 _ _ (Nat.lt_succ_self j) ((S1.trans (F1.wide S2)).trans S3) B3 F3 hr
inductive WhI (C : Ct) (n : Nat) (env : Env) (test : PySem.Expr) (body : List PySem.Stmt) (o : Out) (w : Wd) (j : Nat) (s : Shared) : Prop
 | mk (w' : Wd) (σ' : Loc) (H' : List HObj) : s = w'.s → Step (fw env) w w' → BSt C w' H' → FSt C w' env σ' → Wh C n env test body j σ' H' o → WhI C n env test body o w j s
theorem Es.while {test : PySem.Expr} (h : Wh C n env test body k σ H o) : Es C n env σ H (.While test body [] pos) o := by
 intro A w Q E R B F K
 refine wpAny_While (codeAny_whileLoopL (WhI C n env test body o w) (fun j s I => ?_) k ⟨w, σ, H, rfl, Step.refl _ _, B, F, h⟩)
 obtain ⟨w1, σ1, H1, rfl, S1, B1, F1, h1⟩ := I
 exact while_go R K S1 B1 F1 h1 fun j' w' σ' H' lt a b c d => ⟨j', lt, w', σ', H', rfl, a, b, c, d⟩
theorem Ast.name {X : List Addr} (hk : Hold env X x) : Ast C n env X (.Name x pos) v σ H ((x, v) :: σ) := by
 intro A w y Q E R B F r K
 exact wpAny_assign_Name (storeH B F r hk K)
theorem apart_of {X : List Addr} {w : Wd} (h : ∀ a ∈ X, ∃ o vs T, w.h.get? a = some o ∧ o.data = .fields vs ∧ o.cls = .type T ∧ T ∈ iterCls) (B : BSt C w H) (F : FSt C w env σ) (hπ : ∀ a ∈ X, a ∉ w.π) : (∀ a ∈ X, a ∉ fr env) ∧ (∀ a ∈ X, a ∉ w.ρ) ∧ NonSeq w X := by
 refine ⟨fun a m q => ?_, fun a m q => ?_, fun a m => ⟨hπ a m, fun o e => ?_⟩⟩
 ·obtain ⟨o, vs, T, ho, hd, _⟩ := h a m
  rcases List.mem_cons.mp q with rfl | q
  ·obtain ⟨_, ⟨o', _, _, ho', hd', _⟩, _⟩ := F.ns
   obtain rfl := Option.some.inj (ho.symm.trans ho'); exact nomatch hd.symm.trans hd'
  ·obtain ⟨c, hc, rfl⟩ := List.mem_map.mp q
   obtain ⟨_, v₀, o', ho', hd'⟩ := F.cells c hc
   obtain rfl := Option.some.inj (ho.symm.trans ho'); exact nomatch hd.symm.trans hd'
 ·obtain ⟨o, vs, T, ho, hd, hc, hT⟩ := h a m
  obtain ⟨j, hj⟩ := List.getElem?_of_mem q
  have hl : j < H.length := by rw [← B.len]; exact (List.getElem?_eq_some_iff.mp hj).1
  exact (B.obj j a _ hj (List.getElem?_eq_getElem hl)).hard ho hd hc hT
 ·obtain ⟨o', vs, T, ho, hd, hc, hT⟩ := h a m
  obtain rfl := Option.some.inj (e.symm.trans ho); exact .inr (.inr ⟨_, _, hd, hc, hT⟩)
theorem NextOk.apart {Ok : List HObj → Prop} {T : PySem.Expr → Bool} {it : Value} {X : List Addr} {l : List V} {P : Nat → Wd → Prop} {P' : Nat → Value → Wd → Prop} (N : NextOk C n Ok T it X l P P') {i : Nat} {w : Wd} (p : P i w) (B : BSt C w H) (F : FSt C w env σ) (hπ : ∀ a ∈ X, a ∉ w.π) :
  (∀ a ∈ X, a ∉ fr env) ∧ (∀ a ∈ X, a ∉ w.ρ) ∧ NonSeq w X := apart_of (N.fld i w p) B F hπ
theorem NextOk.apart' {Ok : List HObj → Prop} {T : PySem.Expr → Bool} {it : Value} {X : List Addr} {l : List V} {P : Nat → Wd → Prop} {P' : Nat → Value → Wd → Prop} (N : NextOk C n Ok T it X l P P') {i : Nat} {w : Wd} {y : Value} (p : P' i y w) (B : BSt C w H) (F : FSt C w env σ) (hπ : ∀ a ∈ X, a ∉ w.π) :
  (∀ a ∈ X, a ∉ fr env) ∧ (∀ a ∈ X, a ∉ w.ρ) ∧ NonSeq w X := apart_of (N.fld' i y w p) B F hπ
theorem Step.mix {X Y : List Addr} {w0 w1 w2 : Wd} (S1 : Step Y w0 w1) (S2 : Step X w1 w2) (hr : w2.ρ = w1.ρ) (hX : ∀ a ∈ X, w0.h.get? a = Option.none) : Step Y w0 w2 := by
 obtain ⟨δ, h1, n1⟩ := S1.rho
 have nx : ∀ q o, w0.h.get? q = some o → q ∉ X := fun q o e z => by rw [hX q z] at e; cases e
 refine ⟨⟨δ, hr.trans h1, n1⟩, fun q o e nq m => S2.keep q o (S1.keep q o e nq m) (S1.notin e nq) (nx q o e), fun q o e m => ?_, S2.gens.trans S1.gens, S2.os.trans S1.os, S2.pin.trans S1.pin, Nat.le_trans S1.tk S2.tk⟩
 obtain ⟨o', e'⟩ := S1.live q o e m
 exact S2.live q o' e' (nx q o e)
theorem drop_cons {α : Type} {l l' : List α} {i : Nat} {v : α} (h : l.drop i = v :: l') : l[i]? = some v ∧ l.drop (i + 1) = l' := by
 refine ⟨?_, ?_⟩
 ·rw [← List.head?_drop, h]; rfl
 ·rw [← List.tail_drop, h]; rfl
theorem NextOk.on {Ok : List HObj → Prop} {T : PySem.Expr → Bool} {it : Value} {X : List Addr} {l : List V} {P : Nat → Wd → Prop} {P' : Nat → Value → Wd → Prop} (N : NextOk C n Ok T it X l P P') {i : Nat} {w w' : Wd} (p : P i w) (B : BSt C w H) (F : FSt C w env σ) (hπ : ∀ a ∈ X, a ∉ w.π) (S : Step (fw env) w w') : P i w' :=
 N.mono i w w' (fw env) p S F.nonSeq (fun a m q => (N.apart p B F hπ).1 a m (fw_fr q)) (N.apart p B F hπ).2.1
structure ForAt (C : Ct) (env : Env) (Y X : List Addr) (w w1 w' : Wd) (H' : List HObj) (σ' : Loc) : Prop where
 new : ∀ a ∈ X, w1.h.get? a = Option.none
 stays : C.h₀.StaysIn w1.h
 pins : ∀ a ∈ w1.π, ∃ o, w1.h.get? a = some o
 S1 : Step [] w w1
 S0 : Step Y w w'
 S : Step Y w1 w'
 B : BSt C w' H'
 F : FSt C w' env σ'
theorem ForAt.pi {Y X : List Addr} {w w1 w' : Wd} (h : ForAt C env Y X w w1 w' H σ) : ∀ a ∈ X, a ∉ w'.π := fun a m q => by
 rw [h.S.pin] at q
 obtain ⟨o, e⟩ := h.pins a q
 rw [h.new a m] at e; cases e
theorem ForAt.back {Y X : List Addr} {w w1 w4 w5 : Wd} (h : ForAt C env Y X w w1 w4 H σ) (f4 : ∀ a ∈ X, ∃ o vs T, w4.h.get? a = some o ∧ o.data = .fields vs ∧ o.cls = .type T ∧ T ∈ iterCls) (S : Step X w4 w5) (hr : w5.ρ = w4.ρ) (ht : ∀ a o, w4.h.get? a = some o → a ∉ X → w5.h.get? a = some o) : ForAt C env Y X w w1 w5 H σ := by
 have a := apart_of f4 h.B h.F h.pi
 refine ⟨h.new, h.stays, h.pins, h.S1, h.S0.mix S hr fun a m => ?_, h.S.mix S hr h.new, h.B.turn a.2.2 S hr (fun a o e m => ?_) (fun q m o e => ht q o e fun z => a.2.1 q z m), h.F.step a.2.2 (fun q m z => a.1 q z m) S⟩
 ·cases e : w.h.get? a with
  | none => rfl
  | some o =>
   obtain ⟨o', e'⟩ := h.S1.live a o e fun z => nomatch z
   rw [h.new a m] at e'; cases e'
 ·have := h.stays a o e
  rw [h.new a m] at this; cases this
theorem ForAt.go {Y X : List Addr} {w w1 w4 w5 : Wd} (h : ForAt C env Y X w w1 w4 H σ) (S : Step Y w4 w5) (B : BSt C w5 H1) (F : FSt C w5 env σ1) : ForAt C env Y X w w1 w5 H1 σ1 := ⟨h.new, h.stays, h.pins, h.S1, h.S0.trans S, h.S.trans S, B, F⟩
theorem turn_own {A : Around} {target : PySem.Expr} {Ok : List HObj → Prop} {T : PySem.Expr → Bool} {it : Value} {Y X : List Addr} {l l' : List V} {P : Nat → Wd → Prop} {P' : Nat → Value → Wd → Prop} {i : Nat} {w w1 w3 : Wd} {Qa : Value → Shared → Prop} {E : Value → Shared → Prop} {Qn : Option Value → Shared → Prop}
  (N : NextOk C n Ok T it X l P P') (h : ForAt C env Y X w w1 w3 H σ) (R : Room A n) (hT : T target = true) (hl : l.drop i = v :: l') (ok : Ok H) (p3 : P i w3)
  (hb : ∀ w5 y, ForAt C env Y X w w1 w5 H σ → P (i + 1) w5 → VRel w5 v y → w5.ρ = w3.ρ → l.drop (i + 1) = l' → i + 1 ≤ l.length → Qa y w5.s)
  (hQ : ∀ y s, wpAny C.M A (letOwnedTupleGo target it y) (fun q_ s₁ => Qa y s₁) E s → Qn (some y) s) : wpAny C.M A (pyNext it) Qn E w3.s := by
 obtain ⟨hget, hdrop⟩ := drop_cons hl
 refine N.item i _ A w3 _ _ _ hget R h.B ok p3 (N.apart p3 h.B h.F h.pi).2.2 fun w4 y S34 hr ht p4 r4 => hQ y _ ?_
 have h4 := h.back (N.fld _ _ p3) S34 hr ht
 have a3 := (N.apart' p4 h4.B h4.F h4.pi).2.2
 exact N.own i A w4 _ target _ y _ _ hT hget p4 a3 h4.B r4 fun w5 S45 hr5 ht p5 => hb w5 y (h4.back (N.fld' _ _ _ p4) S45 hr5 ht) p5 (r4.step a3 S45) (hr5.trans hr) hdrop (List.getElem?_eq_some_iff.mp hget).1
theorem for_turn {A : Around} {target : PySem.Expr} {Ok : List HObj → Prop} {T : PySem.Expr → Bool} {it : Value} {X : List Addr} {l l' : List V} {P : Nat → Wd → Prop} {P' : Nat → Value → Wd → Prop} {i : Nat} {σ0 : Loc} {w w1 w3 : Wd} {Qf : Flow → Shared → Prop} {E : Value → Shared → Prop} {Qn : Option Value → Shared → Prop}
  (N : NextOk C n Ok T it X l P P') (h : ForAt C env (fw env) X w w1 w3 H σ) (R : Room A n) (hT : T target = true) (hl : l.drop i = v :: l') (ok : Ok H) (ha : As C n env target v σ H σ0) (p3 : P i w3)
  (hb : ∀ w6, ForAt C env (fw env) X w w1 w6 H σ0 → P (i + 1) w6 → l.drop (i + 1) = l' → i + 1 ≤ l.length → wpAny C.M A (execs body env) Qf E w6.s)
  (hQ : ∀ y s, wpAny C.M A (letOwnedTupleGo target it y) (fun q_ s₁ => wpAny C.M A (assign target env y) (fun q_ s₂ => wpAny C.M A (execs body env) Qf E s₂) E s₁) E s → Qn (some y) s) : wpAny C.M A (pyNext it) Qn E w3.s :=
 turn_own N h R hT hl ok p3 (fun w5 y h5 p5 r5 q_ hdrop hi => ha A w5 y _ _ R h5.B h5.F r5 fun w6 S56 B6 F6 => hb w6 (h5.go S56 B6 F6) (N.on p5 h5.B h5.F h5.pi S56) hdrop hi) hQ
inductive ForI (C : Ct) (n : Nat) (A : Around) (env : Env) (target : PySem.Expr) (body : List PySem.Stmt) (Ok : List HObj → Prop) (X : List Addr) (l : List V) (P : Nat → Wd → Prop) (w w1 : Wd) (o : Out) (j : Nat) (s' : Shared) : Prop
 | mk (w' : Wd) (σ' : Loc) (H' : List HObj) (i : Nat) : s' = w'.s → ForAt C env (fw env) X w w1 w' H' σ' → P i w' → i ≤ l.length → j = (l.drop i).length → FoA C n A env target body Ok (l.drop i) σ' H' o → ForI C n A env target body Ok X l P w w1 o j s'
theorem drop_lt {α : Type} {l : List α} {i : Nat} (h : i + 1 ≤ l.length) : (l.drop (i + 1)).length < (l.drop i).length := by rw [List.length_drop, List.length_drop]; exact Nat.sub_lt_sub_left h (Nat.lt_succ_self i)
theorem ForAt.weak {Y X : List Addr} {w w1 w4 : Wd} (h : ForAt C env Y X w w1 w4 H σ) (hs : ∀ x v, σ'.lookup x = some v → σ.lookup x = some v) : ForAt C env Y X w w1 w4 H σ' := ⟨h.new, h.stays, h.pins, h.S1, h.S0, h.S, h.B, h.F.weak hs⟩
theorem for_go {A : Around} {target : PySem.Expr} {Ok : List HObj → Prop} {T : PySem.Expr → Bool} {it : Value} {X : List Addr} {L l : List V} {P : Nat → Wd → Prop} {P' : Nat → Value → Wd → Prop} {w w1 w3 : Wd} {R' : Result → Shared → Prop} {Nx : Shared → Prop} {i : Nat}
  (N : NextOk C n Ok T it X L P P') (R : Room A n) (hT : T target = true) (K : ∀ w' f, Step (fw env) w w' → ORes C env w' o f → R' (.ok f) w'.s) (h3 : ForAt C env (fw env) X w w1 w3 H σ) (p3 : P i w3) (hi : i ≤ L.length) (hl : L.drop i = l)
  (hf : FoA C n A env target body Ok l σ H o) (hN : ∀ w' σ' H', ForAt C env (fw env) X w w1 w' H' σ' → P (i + 1) w' → i + 1 ≤ L.length → FoA C n A env target body Ok (L.drop (i + 1)) σ' H' o → Nx w'.s) : ForGoal C.prog C.w A R' target it body [] env Nx w3.s := by
 cases l with
 | nil =>
  obtain ⟨σ', hs, ok, rfl⟩ := hf.nilv
  have hlen : i = L.length := Nat.le_antisymm hi (List.drop_eq_nil_iff.mp hl)
  subst hlen
  exact N.fin A w3 _ _ _ R h3.B ok p3 (N.apart p3 h3.B h3.F h3.pi).2.2 fun w4 S34 hr ht =>
   have h4 := (h3.weak hs).back (N.fld _ _ p3) S34 hr ht
   wpAny_execs_nil (K w4 _ h4.S0 (.next h4.B h4.F))
 | cons v l =>
  cases hf.uncons with
  | go σ' σ0 σ1 H2 hs ok ha hb hr =>
   refine for_turn N (h3.weak hs) R hT hl ok ha p3 (fun w6 h6 p6 e6 hi6 => hb w6 _ _ R h6.B h6.F fun w7 f S67 O7 => ?_) (fun q_ q_ q => q)
   obtain ⟨rfl, B7, F7⟩ := O7.inv
   exact hN w7 _ _ (h6.go S67 B7 F7) (N.on p6 h6.B h6.F h6.pi S67) hi6 (e6 ▸ hr)
  | ret σ' σ0 u H2 hs ok ha hb ho =>
   subst ho
   refine for_turn N (h3.weak hs) R hT hl ok ha p3 (fun w6 h6 p6 e6 hi6 => hb w6 _ _ R h6.B h6.F fun w7 f S67 O7 => ?_) (fun q_ q_ q => q)
   obtain ⟨_, rfl, B7, r7⟩ := O7.inv
   exact K w7 _ (h6.S0.trans S67) (.ret B7 r7)
theorem EsA.for {A : Around} {target iter : PySem.Expr} {Ok : List HObj → Prop} {T : PySem.Expr → Bool} {l : List V} (he : SrcE C n env σ H iter H1 Ok T l) (hT : T target = true) (hf : FoA C n A env target body Ok l σ H1 o)
  (hfold : ∀ (env : Env) x, foldedSetIterable iter env x = pure x) : EsA C n A env σ H (.For target iter body [] pos) o := by
 intro w Q E R B F K
 refine wpAny_For (he A w _ E R B F fun w1 w2 it X P P' S1 B1 F1 S2 B2 hX N p2 => ?_) (hfold env)
 refine codeAny_forLoopL (ForI C n A env target body Ok X l P w w1 o) (fun j s I => ?_) l.length
  ⟨w2, σ, H1, 0, rfl, ⟨hX, B1.stays, fun a m => (B1.pins a m).2, S1, F.wide (S1.trans S2), F1.wide S2, B2, F1.step0 S2⟩, p2, Nat.zero_le _, rfl, hf⟩
 obtain ⟨w3, σ3, H3, i, rfl, h3, p3, hi, rfl, hf3⟩ := I
 exact for_go N R hT K h3 p3 hi rfl hf3 fun w' σ' H' h p hi' hf => ⟨_, drop_lt hi', w', σ', H', i + 1, rfl, h, p, hi', rfl, hf⟩
theorem Es.for {target iter : PySem.Expr} {Ok : List HObj → Prop} {T : PySem.Expr → Bool} {l : List V} (he : SrcE C n env σ H iter H1 Ok T l) (hT : T target = true) (hf : Fo C n env target body Ok l σ H1 o)
  (hfold : ∀ (env : Env) x, foldedSetIterable iter env x = pure x) : Es C n env σ H (.For target iter body [] pos) o := fun A => EsA.for he hT (hf A) hfold
end
end
section
noncomputable def rngA (a b : Int) : Asrt where
 P w v := ∃ r t u x, v = .ref r ∧ r ∉ w.ρ ∧ IsRange w.h r a b 1 t u x
 mono {X w w' v} hX S h := by
  obtain ⟨r, t, u, x, rfl, n, e⟩ := h
  refine ⟨r, t, u, x, rfl, S.notin e n, S.keep _ _ e n (hX.hard e ?_)⟩
  rintro (⟨v, h⟩ | ⟨es, n, h⟩ | ⟨vs, T, h, hc, hT⟩)
  ·cases h
  ·cases h
  ·cases hc; exact absurd hT (by decide)
 top := 0
 low {w w' v} L h := by
  obtain ⟨r, t, u, x, rfl, n, e⟩ := h
  exact ⟨r, t, u, x, rfl, fun m => n (L.sub _ m), by rw [show w'.h = w.h from congrArg Shared.heap L.s]; exact e⟩
noncomputable abbrev V.rng (a b : Int) : V := .sem (rngA a b)
noncomputable def rngL (a b : Int) : List V := (List.range (b - a).toNat).map fun (i : Nat) => V.int (a + (i : Int))
section
variable {C : Ct} {n : Nat} {env : Env} {σ σ' σ1 : Loc} {H H' H0 H1 H2 H3 : List HObj} {pos p pos' : Pos} {k : Nat} {x : Str} {v v1 v2 v3 : V} {e e1 e2 e3 : PySem.Expr} {o : Out} {st : PySem.Stmt} {rest body orelse : List PySem.Stmt}
theorem BSt.fresh {w : Wd} (B : BSt C w H) {a : Addr} (h : w.h.get? a = none) : a ∉ w.ρ := fun m => by
 obtain ⟨j, hj⟩ := List.getElem?_of_mem m
 have hl : j < H.length := by rw [← B.len]; exact (List.getElem?_eq_some_iff.mp hj).1
 obtain ⟨ob, hob⟩ := (B.obj j a _ hj (List.getElem?_eq_getElem hl)).live
 exact nomatch h.symm.trans hob
theorem size_none (h : Heap) : h.get? h.objs.size = none := by
 cases q : h.get? h.objs.size with
 | none => rfl
 | some o => exact absurd (Heap.lt_size q) (Nat.lt_irrefl _)
theorem step_same {w : Wd} {a : Addr} {h' : Heap} {t : Nat} (htk : w.s.toks ≤ t) (hs : Heap.SameBut a w.s.heap h') (_hl : ∃ o, h'.get? a = some o) :
  Step [a] w ⟨w.ρ, w.π, { w.s with heap := h', toks := t }⟩ ∧ (∀ b o, w.h.get? b = some o → b ∉ [a] → h'.get? b = some o) := by
 refine ⟨⟨⟨[], (List.append_nil _).symm, fun q_ m => nomatch m⟩, fun b o e q_ m => (hs.2 b fun q => m (q ▸ .head _)).trans e, fun b o e m => ⟨o, (hs.2 b fun q => m (q ▸ .head _)).trans e⟩, rfl, rfl, rfl, htk⟩, fun b o e m => (hs.2 b fun q => m (q ▸ .head _)).trans e⟩
theorem step_extBut {w : Wd} {a : Addr} {h' : Heap} (hs : Heap.ExtBut a w.s.heap h') :
  Step [a] w ⟨w.ρ, w.π, { w.s with heap := h' }⟩ ∧ (∀ b o, w.h.get? b = some o → b ∉ [a] → h'.get? b = some o) := by
 refine ⟨⟨⟨[], (List.append_nil _).symm, fun q_ m => nomatch m⟩, fun b o e q_ m => hs b o (fun q => m (q ▸ .head _)) e, fun b o e m => ⟨o, hs b o (fun q => m (q ▸ .head _)) e⟩, rfl, rfl, rfl, Nat.le_refl _⟩, fun b o e m => hs b o (fun q => m (q ▸ .head _)) e⟩
theorem step_two {w : Wd} {a b : Addr} {h' : Heap} {t : Nat} (ht : w.s.toks ≤ t) (hk : ∀ c o, c ≠ a → c ≠ b → w.s.heap.get? c = some o → h'.get? c = some o) :
  Step [a, b] w ⟨w.ρ, w.π, { w.s with heap := h', toks := t }⟩ ∧ (∀ c o, w.h.get? c = some o → c ∉ [a, b] → h'.get? c = some o) := by
 have k : ∀ c o, w.h.get? c = some o → c ∉ [a, b] → h'.get? c = some o := fun c o e m => hk c o (fun q => m (q ▸ .head _)) (fun q => m (q ▸ .tail _ (.head _))) e
 exact ⟨⟨⟨[], (List.append_nil _).symm, fun q_ m => nomatch m⟩, fun c o e q_ m => k c o e m, fun c o e m => ⟨o, k c o e m⟩, rfl, rfl, rfl, ht⟩, k⟩
theorem own_iter {w : Wd} {I : Addr} {o : Obj} {vs : Array Value} {T : String} {target : PySem.Expr} {y : Value} {A : Around} {Q : Unit → Shared → Prop} {E : Value → Shared → Prop}
  (ho : w.h.get? I = some o) (hd : o.data = .fields vs) (hc : o.cls = .type T)
  (hT : (["enumerate", "zip", "dict_itemiterator", "dict_reverseitemiterator", "odict_iterator", "itertools.zip_longest", "itertools.pairwise"].contains T) = false) (K : Q () w.s) :
  wpAny C.M A (letOwnedTupleGo target (.ref I) y) Q E w.s := by
 have go : wpAny C.M A (match (.ref I : Value), y with
   | .ref r, .ref a => (do
    let o ← load r
    match o.cls, o.data with
    | .type n, .fields vs =>
     if ["enumerate", "zip", "dict_itemiterator", "dict_reverseitemiterator", "odict_iterator", "itertools.zip_longest", "itertools.pairwise"].contains n && vs[0]? == some (rawInt a) then
      rule "for.unpacks-the-owned-tuple"
      updateField r 0 .none
    | _, _ => pure () : Sem Unit)
   | _, _ => pure ()) Q E w.s := by
  cases y with
  | ref a =>
   refine wpAny_bind (wpAny_load ho ?_)
   rw [hc, hd]
   dsimp only
   rw [if_neg (by rw [hT, Bool.false_and]; exact Bool.false_ne_true)]
   exact wpAny_pure K
  | _ => exact wpAny_pure K
 cases target with
 | Tuple => unfold letOwnedTupleGo; cases y <;> exact go
 | List => unfold letOwnedTupleGo; cases y <;> exact go
 | _ => exact wpAny_pure K
theorem VRel.at {w : Wd} {a : V} {l : List V} {q : Addr} (B : BSt C w H) (h : Lsy H a l) (r : VRel w a (.ref q)) : ∃ vs m, w.h.get? q = some (lstObj vs m) ∧ VRels w l vs := by
 obtain ⟨q', vs, m, e, h1, h2⟩ := h.at B r
 cases e; exact ⟨vs, m, h1, h2⟩
theorem Src.lst {a : V} {l : List V} (h : Lsy H a l) : Src C n a H (fun H' => Lsy H' a l) l := by
 intro A w y Q E R B r K
 obtain ⟨q, vs, m, rfl, ho, rv⟩ := h.at B r
 refine wpAny_pyIter_list (isList_of ho) ?_
 have X1 : Ext w ⟨w.ρ, w.π, { w.s with heap := w.s.heap.push { cls := .type "list_iterator", data := .fields #[.ref q, .int 0 0] } }⟩ := Ext.push _
 refine K ⟨w.ρ, w.π, _⟩ (.ref w.s.heap.objs.size) [w.s.heap.objs.size] (fun i w' => VRel w' a (.ref q) ∧ w'.h.IsListIter w.s.heap.objs.size q i) (fun i q_ w' => VRel w' a (.ref q) ∧ w'.h.IsListIter w.s.heap.objs.size q i) X1.step (B.ext X1) (fun b hb => ?_) ?_ ⟨r.ext X1, _, Heap.get?_push_size _ rfl, rfl, rfl⟩
 ·rw [List.mem_singleton.mp hb]; exact size_none _
 ·generalize w.s.heap.objs.size = I
  refine ⟨fun A w1 Q E R p K => wpAny_pyIter_listiter p.2 K, ?_, ?_, ?_, ?_, ?_, ?_⟩
  ·rintro i w' ⟨_, o, ho, hc, hd⟩ b hb
   rw [List.mem_singleton.mp hb]
   exact ⟨o, _, _, ho, hd, hc, by decide⟩
  ·rintro i y w' ⟨_, o, ho, hc, hd⟩ b hb
   rw [List.mem_singleton.mp hb]
   exact ⟨o, _, _, ho, hd, hc, by decide⟩
  ·rintro i w1 w2 Y ⟨r1, o, ho, hc, hd⟩ S hY hXY hρ
   exact ⟨r1.step hY S, o, S.keep _ o ho (hρ I (.head _)) (hXY I (.head _)), hc, hd⟩
  ·rintro i v A w1 H1 Q E hi R B1 ok ⟨r1, hit⟩ hX K
   obtain ⟨vs, m, ho, rv⟩ := r1.at B1 ok
   obtain ⟨z, h1, h2⟩ := rv.get hi
   refine wpAny_pyNext_list_item hit (isList_of ho) (by simpa using h1) fun h' hit' hs => ?_
   have hl : ∃ o, h'.get? I = some o := let ⟨o, e, _⟩ := hit'; ⟨o, e⟩
   obtain ⟨S, ht⟩ := step_same (w := w1) (t := w1.s.toks) (Nat.le_refl _) hs hl
   exact K ⟨w1.ρ, w1.π, _⟩ z S rfl ht ⟨r1.step hX S, hit'⟩ (h2.step hX S)
  ·rintro A w1 H1 Q E R B1 ok ⟨r1, hit⟩ hX K
   obtain ⟨vs, m, ho, rv⟩ := r1.at B1 ok
   refine wpAny_pyNext_list_end R.hd hit (isList_of ho) ?_ fun h' hs => ?_
   ·rw [← rv.length]; simp
   ·obtain ⟨S, ht⟩ := step_extBut (w := w1) hs
    exact K ⟨w1.ρ, w1.π, _⟩ S rfl ht
  ·rintro i A w1 H1 target v y Q E _ _ ⟨r1, o, ho, hc, hd⟩ hX B1 rv K
   exact own_iter ho hd hc (by decide) (K w1 (Step.refl _ _) rfl (fun q_ q_ e q_ => e) ⟨r1, o, ho, hc, hd⟩)
theorem Src.tup {l : List V} : Src C n (.tup l) H (fun q_ => True) l := by
 intro A w y Q E R B r K
 cases r with
 | @tup _ q vs m ho hn rv =>
 refine wpAny_pyIter_tuple (t := q) (items := vs.toArray) ⟨_, ho, rfl, _, rfl⟩ ?_
 have X1 : Ext w ⟨w.ρ, w.π, { w.s with heap := w.s.heap.push { cls := .type "tuple_iterator", data := .fields #[.ref q, .int 0 0] } }⟩ := Ext.push _
 refine K ⟨w.ρ, w.π, _⟩ (.ref w.s.heap.objs.size) [w.s.heap.objs.size] (fun i w' => (w'.h.get? q = some (tupObj vs m) ∧ q ∉ w'.ρ ∧ VRels w' l vs) ∧ w'.h.IsTupleIter w.s.heap.objs.size q i) (fun i q_ w' => (w'.h.get? q = some (tupObj vs m) ∧ q ∉ w'.ρ ∧ VRels w' l vs) ∧ w'.h.IsTupleIter w.s.heap.objs.size q i) X1.step (B.ext X1) (fun b hb => ?_) ?_
  ⟨⟨X1.keep _ _ ho, hn, rv.ext X1⟩, _, Heap.get?_push_size _ rfl, rfl, rfl⟩
 ·rw [List.mem_singleton.mp hb]; exact size_none _
 ·generalize w.s.heap.objs.size = I
  have mono : ∀ {w1 w2 : Wd} {Y}, NonSeq w1 Y → Step Y w1 w2 → (w1.h.get? q = some (tupObj vs m) ∧ q ∉ w1.ρ ∧ VRels w1 l vs) → (w2.h.get? q = some (tupObj vs m) ∧ q ∉ w2.ρ ∧ VRels w2 l vs) :=
   fun hY S h => ⟨S.keep _ _ h.1 h.2.1 (hY.not h.1 ⟨_, _, rfl⟩), S.notin h.1 h.2.1, h.2.2.step hY S⟩
  refine ⟨fun A w1 Q E R p K => wpAny_pyIter_tupleiter p.2 K, ?_, ?_, ?_, ?_, ?_, ?_⟩
  ·rintro i w' ⟨_, o, ho, hc, hd⟩ b hb
   rw [List.mem_singleton.mp hb]
   exact ⟨o, _, _, ho, hd, hc, by decide⟩
  ·rintro i y w' ⟨_, o, ho, hc, hd⟩ b hb
   rw [List.mem_singleton.mp hb]
   exact ⟨o, _, _, ho, hd, hc, by decide⟩
  ·rintro i w1 w2 Y ⟨r1, o, ho, hc, hd⟩ S hY hXY hρ
   exact ⟨mono hY S r1, o, S.keep _ o ho (hρ I (.head _)) (hXY I (.head _)), hc, hd⟩
  ·rintro i v A w1 H1 Q E hi R B1 ok ⟨r1, hit⟩ hX K
   obtain ⟨z, h1, h2⟩ := r1.2.2.get hi
   refine wpAny_pyNext_tuple_item hit ⟨_, r1.1, rfl, _, rfl⟩ (by simpa using h1) fun h' hit' hs => ?_
   have hl : ∃ o, h'.get? I = some o := let ⟨o, e, _⟩ := hit'; ⟨o, e⟩
   obtain ⟨S, ht⟩ := step_same (w := w1) (t := w1.s.toks) (Nat.le_refl _) hs hl
   exact K ⟨w1.ρ, w1.π, _⟩ z S rfl ht ⟨mono hX S r1, hit'⟩ (h2.step hX S)
  ·rintro A w1 H1 Q E R B1 ok ⟨r1, hit⟩ hX K
   refine wpAny_pyNext_tuple_end R.hd hit ⟨_, r1.1, rfl, _, rfl⟩ ?_ fun h' hs => ?_
   ·rw [← rv.length]; simp
   ·obtain ⟨S, ht⟩ := step_extBut (w := w1) hs
    exact K ⟨w1.ρ, w1.π, _⟩ S rfl ht
  ·rintro i A w1 H1 target v y Q E _ _ ⟨r1, o, ho, hc, hd⟩ hX B1 rv K
   exact own_iter ho hd hc (by decide) (K w1 (Step.refl _ _) rfl (fun q_ q_ e q_ => e) ⟨r1, o, ho, hc, hd⟩)
theorem fitsL {i : Int} (h1 : -(2 ^ 62) < i) (h2 : i < 2 ^ 62) : Builtin.Range.rangeFitsLong i = true := by
 unfold Builtin.Range.rangeFitsLong
 rw [Bool.and_eq_true, decide_eq_true_eq, decide_eq_true_eq]
 lia
theorem small_of {a b : Int} (ha : 0 ≤ a) (ha' : a < 2 ^ 40) (hb : -(2 ^ 40) < b) (hb' : b < 2 ^ 40) : Builtin.Range.small a b 1 = true ∧ Builtin.Range.rangeSize a b 1 = ((b - a).toNat : Int) := by
 have hs : Builtin.Range.rangeSize a b 1 = ((b - a).toNat : Int) := by
  unfold Builtin.Range.rangeSize
  split <;> (try split) <;> lia
 refine ⟨?_, hs⟩
 unfold Builtin.Range.small
 rw [hs, fitsL (by lia) (by lia), fitsL (i := b) (by lia) (by lia), fitsL (i := 1) (by exact Int.ofNat_nonneg _) (by exact Int.ofNat_nonneg _), fitsL (i := ((b - a).toNat : Int)) (by exact Int.ofNat_nonneg _) (by lia)]
 rw [if_pos (by exact Int.ofNat_nonneg _), fitsL (by lia) (by lia)]
 simp
theorem Src.rng {a b : Int} (ha : 0 ≤ a) (ha' : a < 2 ^ 40) (hb : -(2 ^ 40) < b) (hb' : b < 2 ^ 40) : Src C n (.rng a b) H (fun q_ => True) (rngL a b) := by
 intro A w y Q E R B r K
 cases r with
 | sem h =>
 obtain ⟨q, t, u, x, rfl, hq, hr⟩ := h
 obtain ⟨hsm, hsz⟩ := small_of ha ha' hb hb'
 refine wpAny_pyIter_range hr hsm ?_
 rw [hsz]
 have X1 : Ext w ⟨w.ρ, w.π, { w.s with heap := w.s.heap.push { cls := .type "range_iterator", data := .fields #[rawInt a, rawInt ((b - a).toNat : Int), rawInt 1] } }⟩ := Ext.push _
 have len : (rngL a b).length = (b - a).toNat := by simp [rngL]
 refine K ⟨w.ρ, w.π, _⟩ (.ref w.s.heap.objs.size) [w.s.heap.objs.size] (fun i w' => IsRangeIter w'.h w.s.heap.objs.size (a + i) (((b - a).toNat : Int) - i) 1) (fun i q_ w' => IsRangeIter w'.h w.s.heap.objs.size (a + i) (((b - a).toNat : Int) - i) 1) X1.step (B.ext X1) (fun b hb => ?_) ?_ ?_
 ·rw [List.mem_singleton.mp hb]; exact size_none _
 ·generalize w.s.heap.objs.size = I
  refine ⟨fun A w1 Q E R p K => wpAny_pyIter_rangeiter p K, ?_, ?_, ?_, ?_, ?_, ?_⟩
  ·intro i w' hit b hb
   rw [List.mem_singleton.mp hb]
   exact ⟨_, _, _, hit, rfl, rfl, by decide⟩
  ·intro i y w' hit b hb
   rw [List.mem_singleton.mp hb]
   exact ⟨_, _, _, hit, rfl, rfl, by decide⟩
  ·intro i w1 w2 Y hit S hY hXY hρ
   exact S.keep _ _ hit (hρ I (.head _)) (hXY I (.head _))
  ·intro i v A w1 H1 Q E hi R B1 ok hit hX K
   have hlt : i < (b - a).toNat := by rw [← len]; exact (List.getElem?_eq_some_iff.mp hi).1
   have hv : v = .int (a + i) := by
    have := hi
    simp only [rngL, List.getElem?_map, List.getElem?_range hlt, Option.map_some] at this
    exact (Option.some.inj this).symm
   subst hv
   refine wpAny_pyNext_range_item hit (by lia) fun h' hit' hs => ?_
   obtain ⟨S, ht⟩ := step_same (w := w1) (t := w1.s.toks + 1) (Nat.le_succ _) hs ⟨_, hit'⟩
   refine K ⟨w1.ρ, w1.π, _⟩ _ S rfl ht ?_ (.int _ _)
   rw [show a + ((i + 1 : Nat) : Int) = a + i + 1 by lia, show ((b - a).toNat : Int) - ((i + 1 : Nat) : Int) = ((b - a).toNat : Int) - i - 1 by lia]
   exact hit'
  ·intro A w1 H1 Q E R B1 ok hit hX K
   rw [len] at hit
   refine wpAny_pyNext_range_end R.hd hit (by lia) fun h' hs => ?_
   obtain ⟨S, ht⟩ := step_extBut (w := w1) hs
   exact K ⟨w1.ρ, w1.π, _⟩ S rfl ht
  ·intro i A w1 H1 target v y Q E _ _ hit hX B1 rv K
   exact own_iter hit rfl rfl (by decide) (K w1 (Step.refl _ _) rfl (fun q_ q_ e q_ => e) hit)
 ·show IsRangeIter _ _ (a + ((0 : Nat) : Int)) (((b - a).toNat : Int) - ((0 : Nat) : Int)) 1
  rw [show a + ((0 : Nat) : Int) = a by lia, show ((b - a).toNat : Int) - ((0 : Nat) : Int) = ((b - a).toNat : Int) by rfl]
  exact Heap.get?_push_size _ rfl
theorem Fn.range1 {b : Int} : Fn C n (.val (.type "range")) [.int b] [] H H (.rng 0 b) := by
 intro A w Q E g xs ks R B rg rx rk K
 obtain ⟨_, rfl⟩ := rg.inv
 obtain ⟨x, rfl, r1⟩ := rx.inv1
 cases rk.inv0
 obtain ⟨t0, rfl⟩ := r1.inv
 refine call_range_1 ?_
 have X1 : Ext w ⟨w.ρ, w.π, { w.s with heap := w.s.heap.push { cls := .type "range", data := .fields #[.int 0 w.s.toks, Value.int b t0, .int 1 (w.s.toks + 1)] }, toks := w.s.toks + 1 + 1 }⟩ := ⟨rfl, fun q_ q_ e => Heap.get?_push_of_some _ e, rfl, rfl, rfl, by show w.s.toks ≤ w.s.toks + 1 + 1; lia⟩
 exact K ⟨w.ρ, w.π, _⟩ _ X1.step (B.ext X1) (.sem ⟨_, _, _, _, rfl, B.fresh (size_none _), Heap.get?_push_size _ rfl⟩)
end
end
section
section
variable {C : Ct} {n : Nat} {env : Env} {σ σ' σ1 : Loc} {H H' H0 H1 H2 H3 : List HObj}
theorem BSt.track {w : Wd} (B : BSt C w H) {s' : Shared} {a : Addr} {o : HObj} (hk : ∀ b ob, w.h.get? b = some ob → s'.heap.get? b = some ob) (hg : s'.gens = w.s.gens) (ho : s'.os = w.s.os) (htk : w.s.toks ≤ s'.toks) (ha : w.h.get? a = none) (h3 : 3 < a)
  (hn : Step [] w ⟨w.ρ ++ [a], w.π, s'⟩ → ORel ⟨w.ρ ++ [a], w.π, s'⟩ a o) (ht : ∀ P : OAsrt, o = .sem P → P.top ≤ H.length + 1) : BSt C ⟨w.ρ ++ [a], w.π, s'⟩ (H ++ [o]) ∧ Step [] w ⟨w.ρ ++ [a], w.π, s'⟩ := by
 have S : Step [] w ⟨w.ρ ++ [a], w.π, s'⟩ := ⟨⟨[a], rfl, fun b m => by rw [List.mem_singleton.mp m]; exact ⟨ha, fun z => nomatch z⟩⟩, fun b ob e q_ q_ => hk b ob e, fun b ob e q_ => ⟨ob, hk b ob e⟩, hg, ho, rfl, htk⟩
 refine ⟨⟨fun b ob e => hk b ob (B.stays b ob e), fun b m => ?_, ?_, by simp [B.len], fun i b ob e1 e2 => ?_, fun b m => ?_, fun h => Nat.lt_of_lt_of_le (B.tok h) htk, fun i P e => ?_⟩, S⟩
 ·rcases List.mem_append.mp m with m | m
  ·exact B.out b m
  ·rw [List.mem_singleton.mp m]
   refine ⟨?_, fun z => by rw [z] at h3; exact absurd h3 (by decide)⟩
   cases q : C.h₀.get? a with
   | none => rfl
   | some ob => have := B.stays a ob q; rw [show w.h.get? a = _ from ha] at this; cases this
 ·refine List.nodup_append.mpr ⟨B.nodup, by simp, fun b m c m' => ?_⟩
  rw [List.mem_singleton.mp m']
  exact fun q => B.fresh ha (q ▸ m)
 ·by_cases q : i < w.ρ.length
  ·have e1' : w.ρ[i]? = some b := by simpa [List.getElem?_append_left q] using e1
   have e2' : H[i]? = some ob := by rw [List.getElem?_append_left (B.len ▸ q)] at e2; exact e2
   exact (B.obj i b ob e1' e2').move .nil S (hk b)
  ·have hi : i = w.ρ.length := by
    have := (List.getElem?_eq_some_iff.mp e1).1
    simp at this; lia
   have e1' : a = b := by simpa [hi] using e1
   have e2' : o = ob := by simpa [hi, B.len] using e2
   subst e1'; subst e2'; exact hn S
 ·obtain ⟨h1, ob, h2⟩ := B.pins b m
  refine ⟨fun z => ?_, ob, hk b ob h2⟩
  rcases List.mem_append.mp z with z | z
  ·exact h1 z
  ·rw [List.mem_singleton.mp z, show w.h.get? a = _ from ha] at h2; cases h2
 ·by_cases q : i < H.length
  ·rw [List.length_append]; exact Nat.le_trans (B.tops i P (by rw [List.getElem?_append_left q] at e; exact e)) (Nat.le_add_right _ _)
  ·have hi : i = H.length := by
    have := (List.getElem?_eq_some_iff.mp e).1
    simp at this; lia
   rw [List.length_append]; exact ht P (by simpa [hi] using e)
theorem BSt.setK {w : Wd} (B : BSt C w H) {s' : Shared} {a : Addr} {i : Nat} {o : HObj} (hi : w.ρ[i]? = some a) (base : ∀ b ob, b ≠ a → w.h.get? b = some ob → s'.heap.get? b = some ob) (hg : s'.gens = w.s.gens) (ho : s'.os = w.s.os) (htk : w.s.toks ≤ s'.toks)
  (hl : ∃ ob, s'.heap.get? a = some ob) (hn : Step [] w ⟨w.ρ, w.π, s'⟩ → ORel ⟨w.ρ, w.π, s'⟩ a o) (ht : ∀ P : OAsrt, o = .sem P → P.top ≤ H.length) : BSt C ⟨w.ρ, w.π, s'⟩ (H.set i o) ∧ Step [] w ⟨w.ρ, w.π, s'⟩ := by
 have mem : a ∈ w.ρ := List.mem_of_getElem? hi
 have hlt : i < w.ρ.length := (List.getElem?_eq_some_iff.mp hi).1
 have S : Step [] w ⟨w.ρ, w.π, s'⟩ := ⟨⟨[], by simp, by simp⟩, fun b ob e m q_ => base b ob (fun q => m (q ▸ mem)) e, fun b ob e q_ => by
  by_cases q : b = a
  ·rw [q]; exact hl
  ·exact ⟨ob, base b ob q e⟩, hg, ho, rfl, htk⟩
 refine ⟨⟨fun b ob e => base b ob (fun q => ?_) (B.stays b ob e), B.out, B.nodup, by simpa using B.len, fun j b ob e1 e2 => ?_, fun b m => ?_, fun h => Nat.lt_of_lt_of_le (B.tok h) htk, fun j P e => ?_⟩, S⟩
 ·rw [q, (B.out a mem).1] at e; cases e
 ·by_cases q : i = j
  ·subst q
   have e1' : w.ρ[i]? = some b := e1
   obtain rfl := Option.some.inj (hi.symm.trans e1')
   rw [List.getElem?_set_self (by rw [← B.len]; exact hlt)] at e2
   cases e2; exact hn S
  ·rw [List.getElem?_set_ne q] at e2
   refine (B.obj j b ob e1 e2).move .nil S fun ob' e => base b ob' (fun qq => q ?_) e
   subst qq
   have hj : j < w.ρ.length := (List.getElem?_eq_some_iff.mp e1).1
   exact ((List.getElem?_inj hlt B.nodup).mp (hi.trans e1.symm))
 ·obtain ⟨h1, ob, h2⟩ := B.pins b m
  exact ⟨h1, ob, base b ob (fun q => h1 (q ▸ mem)) h2⟩
 ·by_cases q : i = j
  ·subst q
   rw [List.getElem?_set_self (by rw [← B.len]; exact hlt)] at e
   rw [List.length_set]; exact ht P (Option.some.inj e)
  ·rw [List.getElem?_set_ne q] at e
   rw [List.length_set]; exact B.tops j P e
theorem BSt.set {w : Wd} (B : BSt C w H) {s' : Shared} {a : Addr} {i : Nat} {o : HObj} (hi : w.ρ[i]? = some a) (hs : Heap.SameBut a w.s.heap s'.heap) (hg : s'.gens = w.s.gens) (ho : s'.os = w.s.os) (htk : w.s.toks ≤ s'.toks)
  (hl : ∃ ob, s'.heap.get? a = some ob) (hn : Step [] w ⟨w.ρ, w.π, s'⟩ → ORel ⟨w.ρ, w.π, s'⟩ a o) (ht : ∀ P : OAsrt, o = .sem P → P.top ≤ H.length) : BSt C ⟨w.ρ, w.π, s'⟩ (H.set i o) ∧ Step [] w ⟨w.ρ, w.π, s'⟩ :=
 B.setK hi (fun b q_ q e => (hs.2 b q).trans e) hg ho htk hl hn ht
theorem BSt.lower {w : Wd} (B : BSt C w H) (m : Nat) (hc : Cl (H.take m)) (hm : m ≤ H.length) : BSt C ⟨w.ρ.take m, w.π, w.s⟩ (H.take m) ∧ Low m w ⟨w.ρ.take m, w.π, w.s⟩ := by
 have L : Low m w ⟨w.ρ.take m, w.π, w.s⟩ := ⟨rfl, fun i h => List.getElem?_take_of_lt h, fun a h => List.mem_of_mem_take h, rfl⟩
 refine ⟨⟨B.stays, fun a h => B.out a (List.mem_of_mem_take h), B.nodup.sublist (List.take_sublist _ _), by simp [B.len], fun i a o e1 e2 => ?_, fun a h => ?_, B.tok, fun i P e => ?_⟩, L⟩
 ·have hi : i < m := by
   have := (List.getElem?_eq_some_iff.mp e2).1
   simp at this; lia
  have e1' : w.ρ[i]? = some a := by
   have := e1; rw [show (⟨w.ρ.take m, w.π, w.s⟩ : Wd).ρ = w.ρ.take m from rfl, List.getElem?_take_of_lt hi] at this; exact this
  rw [List.getElem?_take_of_lt hi] at e2
  cases B.obj i a o e1' e2 with
  | list e r d => exact .list e (r.dat (w := w) (w' := ⟨w.ρ.take m, w.π, w.s⟩) rfl (fun a h => List.mem_of_mem_take h) d) d
  | sem e p => exact .sem e (OAsrt.low _ (L.le (Nat.le_trans (hc i _ (by rw [List.getElem?_take_of_lt hi]; exact e2)) (List.length_take_le _ _))) p)
 ·obtain ⟨h1, h2⟩ := B.pins a h
  exact ⟨fun z => h1 (List.mem_of_mem_take z), h2⟩
 ·exact hc i P e
theorem low_take (w : Wd) (m : Nat) : Low m w ⟨w.ρ.take m, w.π, w.s⟩ := ⟨rfl, fun i h => List.getElem?_take_of_lt h, fun a h => List.mem_of_mem_take h, rfl⟩
theorem Step.lower {w w' : Wd} {m : Nat} (S : Step [] w w') (h : w.ρ.length ≤ m) : Step [] w ⟨w'.ρ.take m, w'.π, w'.s⟩ := by
 obtain ⟨δ, h1, h2⟩ := S.rho
 exact ⟨⟨δ.take (m - w.ρ.length), by show w'.ρ.take m = _; rw [h1, List.take_append, List.take_of_length_le h], fun a q => h2 a (List.mem_of_mem_take q)⟩, S.keep, S.live, S.gens, S.os, S.pin, S.tk⟩
noncomputable def Fz (H : List HObj) (m : Nat) (v v' : V) : Prop := ∀ (C : Ct) (w : Wd) (x : Value), BSt C w H → VRel w v x → VRel ⟨w.ρ.take m, w.π, w.s⟩ v' x
noncomputable def FzL (H : List HObj) (m : Nat) (l l' : List V) : Prop := ∀ (C : Ct) (w : Wd) (xs : List Value), BSt C w H → VRels w l xs → VRels ⟨w.ρ.take m, w.π, w.s⟩ l' xs
theorem take_sub {w : Wd} {m : Nat} : ∀ a, a ∈ (⟨w.ρ.take m, w.π, w.s⟩ : Wd).ρ → a ∈ w.ρ := fun q_ h => List.mem_of_mem_take h
theorem Fz.rel {w : Wd} {m : Nat} {v v' : V} {x : Value} (B : BSt C w H) (f : Fz H m v v') (r : VRel w v x) : VRel ⟨w.ρ.take m, w.π, w.s⟩ v' x := f _ _ _ B r
theorem Fz.dat {m : Nat} {v : V} (d : v.dat = true) : Fz H m v v := fun q_ w q_ q_ r => r.dat (w := w) (w' := ⟨w.ρ.take m, w.π, w.s⟩) rfl take_sub d
theorem Fz.lst {m k : Nat} {l : List V} (h : H[k]? = some (HObj.list l)) (hm : m ≤ k) : Fz H m (.ref k) (.lst l) := fun q_ w q_ B r => by
 obtain ⟨a, rfl, e⟩ := r.inv
 obtain ⟨a, vs, q, h1, h2, h3, d⟩ := B.get h
 obtain rfl := Option.some.inj (e.symm.trans h1)
 refine .lst h2 (fun z => ?_) (h3.dat (w := w) (w' := ⟨w.ρ.take m, w.π, w.s⟩) rfl take_sub d)
 obtain ⟨j, hj⟩ := List.getElem?_of_mem (l := w.ρ.take m) z
 have hjm : j < m := Nat.lt_of_lt_of_le (List.getElem?_eq_some_iff.mp hj).1 (List.length_take_le _ _)
 rw [List.getElem?_take_of_lt hjm] at hj
 have := (List.getElem?_inj (List.getElem?_eq_some_iff.mp hj).1 B.nodup).mp (hj.trans e.symm)
 exact absurd hjm (Nat.not_lt.mpr (this ▸ hm))
theorem Fz.sem {m : Nat} {P : Asrt} (h : P.top ≤ m) : Fz H m (.sem P) (.sem P) := fun q_ w q_ q_ r => .sem (Asrt.low _ ((low_take w m).le h) r.inv)
theorem Fz.tup {m : Nat} {l l' : List V} (h : FzL H m l l') : Fz H m (.tup l) (.tup l') := fun q_ q_ q_ B r => by
 obtain ⟨a, vs, n, rfl, e, q, r⟩ := r.inv
 exact .tup e (fun z => q (take_sub _ z)) (h _ _ _ B r)
theorem FzL.nil {m : Nat} : FzL H m [] [] := fun q_ q_ q_ q_ r => by obtain rfl := r.inv; exact .nil
theorem FzL.cons {m : Nat} {v v' : V} {l l' : List V} (a : Fz H m v v') (b : FzL H m l l') : FzL H m (v :: l) (v' :: l') := fun q_ q_ q_ B r => by
 obtain ⟨x, ys, rfl, r1, r2⟩ := r.inv
 exact .cons (a _ _ _ B r1) (b _ _ _ B r2)
theorem Fn.shed {K : List HObj} {f : V} {args : List V} {kw : List (Str × V)} {v v' : V} (h : Fn C n f args kw H (H' ++ K) v) (hm : H.length ≤ H'.length) (hz : Fz (H' ++ K) H'.length v v') (hc : Cl H → Cl H') : Fn C n f args kw H H' v' := by
 intro A w Q E g xs ks R B rg rx rk Kk
 refine h A w Q E g xs ks R B rg rx rk fun w1 y S1 B1 r1 => ?_
 have := (B1.lower H'.length (by rw [List.take_left]; exact hc B.tops) (by simp)).1
 rw [List.take_left] at this
 exact Kk ⟨w1.ρ.take H'.length, w1.π, w1.s⟩ y (S1.lower (by rw [B.len]; exact hm)) this (hz.rel B1 r1)
end
end
section
noncomputable def TstL (C : Ct) (n : Nat) (env : Env) (σ : Loc) (H : List HObj) (ifs : List PySem.Expr) (b : Bool) : Prop :=
 ∀ (A : Around) (w : Wd) (Q : Bool → Shared → Prop) (E : Value → Shared → Prop), Room A n → BSt C w H → FSt C w env σ → (∀ w', Step [] w w' → BSt C w' H → FSt C w' env σ → Q b w'.s) →
  wpAny C.M A (forIn ifs true fun c r => if r = true then do let ok ← isTrue c env (eval c env); pure (ForInStep.yield ok) else pure (ForInStep.yield r)) Q E w.s
inductive CoC (C : Ct) (n : Nat) (env : Env) (target : PySem.Expr) (ifs : List PySem.Expr) (elt : PySem.Expr) (σ : Loc) (H : List HObj) (v : V) (W : List V → Prop) (rs : List V) : Prop
 | cons (σ0 : Loc) (r : V) (rs' : List V) : (∀ K, Ast C n env [env.locals] target v σ (H ++ K) σ0) → (∀ K, TstL C n env σ0 (H ++ K) ifs true) → (∀ K, Ev C n env σ0 (H ++ K) elt (H ++ K) r) → r.dat = true → (∀ x v, σ.lookup x = some v → σ0.lookup x = some v) → W rs' → rs = r :: rs' → CoC C n env target ifs elt σ H v W rs
 | skip (σ0 : Loc) : (∀ K, Ast C n env [env.locals] target v σ (H ++ K) σ0) → (∀ K, TstL C n env σ0 (H ++ K) ifs false) → (∀ x v, σ.lookup x = some v → σ0.lookup x = some v) → W rs → CoC C n env target ifs elt σ H v W rs
noncomputable def Co (C : Ct) (n : Nat) (env : Env) (target : PySem.Expr) (ifs : List PySem.Expr) (elt : PySem.Expr) (σ : Loc) (H : List HObj) (l : List V) : List V → Prop :=
 List.rec (motive := fun q_ => List V → Prop) (fun rs => rs = []) (fun v q_ W => CoC C n env target ifs elt σ H v W) l
section
variable {C : Ct} {n : Nat} {env : Env} {target elt : PySem.Expr} {ifs : List PySem.Expr} {σ σ0 : Loc} {H : List HObj} {l rs : List V} {v r : V}
theorem Co.nil : Co C n env target ifs elt σ H [] [] := rfl
theorem Co.cons (a : ∀ K, Ast C n env [env.locals] target v σ (H ++ K) σ0) (b : ∀ K, TstL C n env σ0 (H ++ K) ifs true) (c : ∀ K, Ev C n env σ0 (H ++ K) elt (H ++ K) r) (d : r.dat = true) (e : ∀ x v, σ.lookup x = some v → σ0.lookup x = some v) (f : Co C n env target ifs elt σ H l rs) : Co C n env target ifs elt σ H (v :: l) (r :: rs) :=
 CoC.cons σ0 r rs a b c d e f rfl
theorem Co.skip (a : ∀ K, Ast C n env [env.locals] target v σ (H ++ K) σ0) (b : ∀ K, TstL C n env σ0 (H ++ K) ifs false) (e : ∀ x v, σ.lookup x = some v → σ0.lookup x = some v) (f : Co C n env target ifs elt σ H l rs) : Co C n env target ifs elt σ H (v :: l) rs :=
 CoC.skip σ0 a b e f
theorem Co.nilv (h : Co C n env target ifs elt σ H [] rs) : rs = [] := h
theorem Co.uncons (h : Co C n env target ifs elt σ H (v :: l) rs) : CoC C n env target ifs elt σ H v (Co C n env target ifs elt σ H l) rs := h
theorem Co.both (h : Co C n env target ifs elt σ H l rs) : rs.length ≤ l.length ∧ datL rs = true := by
 induction l generalizing rs with
 | nil => cases h.nilv; exact ⟨Nat.le_refl _, rfl⟩
 | cons v l ih =>
  cases h.uncons with
  | cons σ0 r rs' a b c d e f g =>
   subst g
   exact ⟨Nat.succ_le_succ (ih f).1, by rw [datL, d, (ih f).2]; rfl⟩
  | skip σ0 a b c d => exact ⟨Nat.le_succ_of_le (ih d).1, (ih d).2⟩
end
section
variable {prog : Program} {w : World} {A : Around} {E : Value → Shared → Prop} {R : Result → Shared → Prop} {s : Shared}
noncomputable def CompGoal (prog : Program) (w : World) (A : Around) (R : Result → Shared → Prop) (elt target : PySem.Expr) (ifs : List PySem.Expr) (it acc : Value) (env : Env) (N : Shared → Prop) (s : Shared) : Prop :=
 wpAny (model prog w) A (pyNext it) (fun r s₁ => match r with
   | none => R (.ok .next) s₁
   | some v => wpAny (model prog w) A (letOwnedTupleGo target it v) (fun q_ s₀ => wpAny (model prog w) A (assign target env v) (fun q_ s₂ =>
     wpAny (model prog w) A (forIn ifs true fun c r => if r = true then do let ok ← isTrue c env (eval c env); pure (ForInStep.yield ok) else pure (ForInStep.yield r)) (fun ok s₃ => if ok = true then wpAny (model prog w) A (eval elt env) (fun x s₄ =>
      wpAny (model prog w) A (call (.builtin "list.append") [acc, x]) (fun q_ s₅ => N s₅) (notedBy (model prog w) A env fun e s' => R (.error e) s') s₄) (notedBy (model prog w) A env fun e s' => R (.error e) s') s₃
      else N s₃) (notedBy (model prog w) A env fun e s' => R (.error e) s') s₂)
     (notedBy (model prog w) A env fun e s' => R (.error e) s') s₀) (notedBy (model prog w) A env fun e s' => R (.error e) s') s₁) (notedBy (model prog w) A env fun e s' => R (.error e) s') s
theorem codeAny_compLoopL {elt target iter : PySem.Expr} {ifs : List PySem.Expr} {scope : Scope} {pos : Pos} {it acc : Value} {env : Env} (I : Nat → Shared → Prop)
  (turn : ∀ n s, I n s → CompGoal prog w A R elt target ifs it acc env (fun s => ∃ m, m < n ∧ I m s) s)
  (n : Nat) (h : I n s) : codeAny (model prog w) A (.compLoop (.ListComp elt [⟨target, iter, ifs, 0⟩] scope pos) 0 it acc env) R s := by
 refine codeAny_loop rfl I (fun n s hI => ?_) n h
 show wpAny _ A ((compTurn (.ListComp elt [⟨target, iter, ifs, 0⟩] scope pos) 0 it acc env).onRaise (fun x => do noteFrame x env; theTreesLotGoes x)) _ _ s
 refine wpAny_noted ?_
 rw [compTurn_list]
 refine wpAny_bind (wpAny_standAt (wpAny_bind (wpAny_mono (turn n s hI) (fun r s₁ h₁ => ?_) fun q_ q_ h' => h')))
 cases r with
 | none => exact wpAny_pure h₁
 | some v =>
  refine wpAny_bind (wpAny_mono h₁ (fun q_ s₀ h₀' => ?_) fun q_ q_ h' => h')
  refine wpAny_bind (wpAny_mono h₀' (fun q_ s₂ h₂ => ?_) fun q_ q_ h' => h')
  refine wpAny_bind (wpAny_mono h₂ (fun okb s₃ h₃ => ?_) fun q_ q_ h' => h')
  cases okb with
  | false => exact wpAny_pure ⟨rfl, h₃⟩
  | true => exact wpAny_bind (wpAny_bind (wpAny_mono h₃ (fun x s₄ h₄ => wpAny_bind (wpAny_mono h₄ (fun q_ s₅ h₅ => wpAny_pure (wpAny_pure ⟨rfl, h₅⟩)) fun q_ q_ h' => h')) fun q_ q_ h' => h'))
end
noncomputable def clos (env : Env) (names : List (Str × NameKind)) (acc : List (Str × Addr)) : List (Str × Addr) := ((names.filter fun p => p.2 == .free).map fun p => (p.1, (env.cells.lookup p.1).getD 0)).reverse ++ acc
theorem closureFor_eq {scope : Scope} {env : Env} (h : ∀ p ∈ scope.names, p.2 = .free → ∃ c, env.cells.lookup p.1 = some c) : closureFor scope env = pure (clos env scope.names []) := by
 have go : ∀ (names : List (Str × NameKind)) (acc : List (Str × Addr)), (∀ p ∈ names, p.2 = .free → ∃ c, env.cells.lookup p.1 = some c) →
   (forIn names acc (fun (p : Str × NameKind) r => (do
    if p.2 == .free then do
     let a ← cellOf env p.1
     pure (ForInStep.yield ((p.1, a) :: r))
    else pure (ForInStep.yield r) : Sem (ForInStep (List (Str × Addr)))))) = pure (clos env names acc) := fun names => by
  induction names with
  | nil => intro acc _; rfl
  | cons p r ih =>
   intro acc h
   have ih := fun acc => ih acc fun p m => h p (.tail _ m)
   rw [List.forIn_cons]
   unfold clos at ih ⊢
   cases q : p.2 == NameKind.free with
   | true =>
    obtain ⟨c, hc⟩ := h p (.head _) (eq_of_beq q)
    have e : cellOf env p.1 = pure c := by unfold cellOf; rw [hc]
    simp only [if_true, e, pure_bind, ih, List.filter_cons, q, List.map_cons, List.reverse_cons, List.append_assoc, hc, Option.getD_some, List.singleton_append]
   | false =>
    simp only [Bool.false_eq_true, if_false, pure_bind, ih, List.filter_cons, q]
 unfold closureFor
 simp only [bind_pure]
 exact go scope.names [] h
theorem clos_at {env : Env} {names : List (Str × NameKind)} {p : Str × Addr} : p ∈ clos env names [] ↔ (p.1, NameKind.free) ∈ names ∧ p.2 = (env.cells.lookup p.1).getD 0 := by
 unfold clos
 rw [List.append_nil, List.mem_reverse, List.mem_map]
 refine ⟨fun ⟨q, m, e⟩ => ?_, fun ⟨m, e⟩ => ⟨_, List.mem_filter.mpr ⟨m, rfl⟩, by rw [← e]⟩⟩
 obtain ⟨m, k⟩ := List.mem_filter.mp m
 have k := eq_of_beq k
 subst e
 exact ⟨by rw [← k]; exact m, rfl⟩
theorem clos_lookup {env : Env} {names : List (Str × NameKind)} {x : Str} (hm : (x, NameKind.free) ∈ names) : (clos env names []).lookup x = some ((env.cells.lookup x).getD 0) := by
 obtain ⟨c, h⟩ := lookup_of_mem' (clos_at (p := (x, (env.cells.lookup x).getD 0)).mpr ⟨hm, rfl⟩)
 rw [h, show c = _ from (clos_at.mp (mem_of_lookup h)).2]
theorem clos_nodup {env : Env} (hn : (env.cells.map (·.2)).Nodup) {names : List (Str × NameKind)} (nd : (names.map (·.1)).Nodup) (hc : ∀ p ∈ names, p.2 = .free → ∃ c, env.cells.lookup p.1 = some c) : ((clos env names []).map (·.2)).Nodup := by
 unfold clos
 rw [List.append_nil, List.map_reverse, List.map_map]
 refine (List.reverse_perm _).nodup_iff.mpr (List.pairwise_map.mpr (((List.pairwise_map.mp nd).filter _).imp_of_mem fun {p q} mp mq ne e => ne ?_))
 obtain ⟨mp, kp⟩ := List.mem_filter.mp mp
 obtain ⟨mq, kq⟩ := List.mem_filter.mp mq
 obtain ⟨c, ec⟩ := hc p mp (eq_of_beq kp)
 obtain ⟨d, ed⟩ := hc q mq (eq_of_beq kq)
 have e : c = d := by
  have e : (env.cells.lookup p.1).getD 0 = (env.cells.lookup q.1).getD 0 := e
  rw [ec, ed] at e; exact e
 subst e
 exact name_of_cell hn (mem_of_lookup ec) (mem_of_lookup ed)
noncomputable def relS (scope S : Scope) : Scope :=
 { scope with names := scope.names.map fun (n, k) => if (k == .free && S.kind == .function && S.names.lookup n == some .cell) then (n, .cell) else (n, k) }
noncomputable def compOk (scope S : Scope) : Bool := scope.kind == .function && decide ((scope.names.map (·.1)).Nodup) && scope.names.all fun p => p.2 != .cell && (p.2 != .free || S.names.lookup p.1 == some .cell)
noncomputable def inner (scope : Scope) (σ : Loc) : Loc := σ.filter fun p => scope.names.lookup p.1 == some .free
theorem lookup_inner {scope : Scope} {x : Str} {v : V} {σ : Loc} (h : (inner scope σ).lookup x = some v) : σ.lookup x = some v ∧ scope.names.lookup x = some .free := by
 unfold inner at h
 induction σ with
 | nil => cases h
 | cons p σ ih =>
  rw [List.filter_cons] at h
  cases q : scope.names.lookup p.1 == some .free with
  | true =>
   rw [q, if_pos rfl] at h
   simp only [List.lookup] at h ⊢
   cases e : x == p.1 with
   | true =>
    rw [e] at h
    exact ⟨h, by rw [eq_of_beq e]; exact eq_of_beq q⟩
   | false => rw [e] at h; exact ih h
  | false =>
   rw [q, if_neg (by decide)] at h
   have ih := ih h
   refine ⟨?_, ih.2⟩
   simp only [List.lookup]
   cases e : x == p.1 with
   | true => rw [← eq_of_beq e, ih.2] at q; cases q
   | false => exact ih.1
theorem lookup_of_nodup {α : Type} {x : Str} {y : α} {l : List (Str × α)} (nd : (l.map (·.1)).Nodup) (h : (x, y) ∈ l) : l.lookup x = some y := by
 induction l with
 | nil => cases h
 | cons p l ih =>
  have nd' := List.nodup_cons.mp nd
  simp only [List.lookup]
  rcases List.mem_cons.mp h with e | h
  ·cases e; rw [beq_self_eq_true]
  ·cases e : x == p.1 with
   | true =>
    rw [eq_of_beq e] at h
    exact absurd (List.mem_map_of_mem (f := (·.1)) h) nd'.1
   | false => exact ih nd'.2 h
theorem lookup_rel {S : Scope} {x : Str} {names : List (Str × NameKind)} : (names.map fun (n, k) => if (k == NameKind.free && S.kind == .function && S.names.lookup n == some .cell) then (n, NameKind.cell) else (n, k)).lookup x =
  (names.lookup x).map fun k => if (k == NameKind.free && S.kind == .function && S.names.lookup x == some .cell) then NameKind.cell else k := by
 induction names with
 | nil => rfl
 | cons p r ih =>
  have hp : (if (p.2 == NameKind.free && S.kind == .function && S.names.lookup p.1 == some .cell) = true then (p.1, NameKind.cell) else (p.1, p.2)) = (p.1, if (p.2 == NameKind.free && S.kind == .function && S.names.lookup p.1 == some .cell) = true then NameKind.cell else p.2) := by split <;> rfl
  show List.lookup x ((if (p.2 == NameKind.free && S.kind == .function && S.names.lookup p.1 == some .cell) = true then (p.1, NameKind.cell) else (p.1, p.2)) :: _) = Option.map _ (List.lookup x ((p.1, p.2) :: r))
  rw [hp, List.lookup_cons, List.lookup_cons]
  cases e : x == p.1 with
  | true => rw [← eq_of_beq e]; rfl
  | false => exact ih
section
variable {C : Ct} {n : Nat} {env : Env} {σ σ' σ1 : Loc} {H H' H0 H1 H2 H3 : List HObj}
theorem comp_frame {scope : Scope} {w : Wd} (F : FSt C w env σ) (B : BSt C w H) (ok : compOk scope env.scope = true) {L : Addr} {w' : Wd} (S : Step [] w w') (hL : w.h.get? L = none) (hn : w'.h.Ns L fun q_ => none) :
  closureFor scope env = pure (clos env scope.names []) ∧ (L ∉ w'.ρ → FSt C w' (compEnvC scope (clos env scope.names []) L env) (inner scope σ)) := by
 simp only [compOk, Bool.and_eq_true, beq_iff_eq, decide_eq_true_eq, List.all_eq_true, Bool.or_eq_true, bne_iff_ne, ne_eq] at ok
 obtain ⟨⟨hk, nd⟩, hall⟩ := ok
 have hfree : ∀ p ∈ scope.names, p.2 = .free → env.kindOf p.1 = some .cell := fun p m e => ((hall p m).2.resolve_left fun z => z e)
 have hcl : ∀ p ∈ scope.names, p.2 = .free → ∃ c, env.cells.lookup p.1 = some c := fun p m e => F.full _ (hfree p m e)
 refine ⟨closureFor_eq hcl, fun hLρ => ?_⟩
 have src : ∀ p ∈ clos env scope.names [], (p.1, NameKind.free) ∈ scope.names ∧ p ∈ env.cells := fun p m => by
  obtain ⟨h, e⟩ := clos_at.mp m
  obtain ⟨c, hc⟩ := hcl _ h rfl
  rw [hc] at e
  refine ⟨h, ?_⟩
  have := mem_of_lookup hc
  rw [show c = p.2 from e.symm] at this
  exact this
 have F' := F.step0 S
 have kof : ∀ x, (compEnvC scope (clos env scope.names []) L env).kindOf x = (scope.names.lookup x).map fun k => if (k == NameKind.free && env.scope.kind == .function && env.kindOf x == some .cell) then NameKind.cell else k := fun x => lookup_rel
 refine ⟨fun a m => ?_, F.glob, F.bltn, hk, ⟨_, hn, fun x v e => ?_⟩, hLρ, fun p m => F'.cells p (src p m).2, ?_, fun x e => ?_, fun a m => ?_⟩
 ·rcases List.mem_cons.mp m with rfl | m
  ·cases q : C.h₀.get? _ with
   | none => rfl
   | some o => have := B.stays _ o q; rw [show w.h.get? _ = _ from hL] at this; cases this
  ·obtain ⟨p, hp, rfl⟩ := List.mem_map.mp m
   exact F.own _ (.tail _ (List.mem_map_of_mem (f := (·.2)) (src p hp).2))
 ·obtain ⟨h1, h2⟩ := lookup_inner e
  have hm := mem_of_lookup h2
  have hkx := hfree _ hm rfl
  obtain ⟨m', hn', hs⟩ := F'.ns
  obtain ⟨y, hy, hv⟩ := hs x v h1
  refine ⟨y, ?_, hv⟩
  rcases hy with ⟨h, _⟩ | ⟨_, c, hc, hcell⟩
  ·rw [show env.kindOf x = _ from hkx] at h; cases h
  ·refine .inr ⟨.inl ?_, c, ?_, hcell⟩
   ·rw [kof, h2]
    simp [F.kind, show env.kindOf x = _ from hkx]
   ·show (clos env scope.names []).lookup x = some c
    rw [clos_lookup hm, hc]; rfl
 ·exact clos_nodup F.nodup nd hcl
 ·rw [kof] at e
  have : scope.names.lookup x = some .free := by
   cases q : scope.names.lookup x with
   | none => rw [q] at e; cases e
   | some k =>
    rw [q] at e
    by_cases z : k = .free
    ·rw [z]
    ·simp only [Option.map_some, beq_false_of_ne z, Bool.false_and, Bool.false_eq_true, if_false] at e
     exact absurd (Option.some.inj e) (hall _ (mem_of_lookup q)).1
  exact ⟨_, clos_lookup (mem_of_lookup this)⟩
 ·rcases List.mem_cons.mp m with rfl | m
  ·rw [S.pin]; intro q
   obtain ⟨_, o, ho⟩ := B.pins _ q
   rw [show w.h.get? _ = _ from hL] at ho; cases ho
  ·obtain ⟨p, hp, rfl⟩ := List.mem_map.mp m
   have hp' := (List.mem_filter.mp hp).1
   refine F'.pin _ (.tail _ (List.mem_map_of_mem (f := (·.2)) (List.mem_filter.mpr ⟨(src p hp').2, ?_⟩)))
   rw [hfree _ (src p hp').1 rfl]; rfl
end
end
section
section
variable {C : Ct} {n : Nat} {env : Env} {σ σ' σ1 : Loc} {H H' H0 H1 H2 H3 : List HObj} {pos : Pos} {v : V}
theorem appendAt {w : Wd} {i : Nat} {D : Addr} {l : List V} {r : V} {y : Value} {A : Around} {Q E : Value → Shared → Prop} (B : BSt C w H) (hD : w.ρ[i]? = some D) (hH : H[i]? = some (.list l)) (hy : VRel w r y) (hd : r.dat = true) (hlen : l.length ≤ sizeLine)
  (K : ∀ w', Step [] w w' → w'.ρ = w.ρ → BSt C w' (H.set i (.list (l ++ [r]))) → Q .none w'.s) : wpAny C.M A (call (.builtin "list.append") [.ref D, y]) Q E w.s := by
 obtain ⟨a, vs, m, h1, h2, h3, d⟩ := B.get hH
 obtain rfl := Option.some.inj (hD.symm.trans h1)
 refine wpAny_list_append_plain (items := vs.toArray) ⟨m, h2⟩ (fun h' hp hs => ?_) (by rw [List.size_toArray, h3.length]; exact hlen)
 obtain ⟨k, hk⟩ := hp
 have hk' : h'.get? D = some (lstObj (vs ++ [y]) k) := by rw [hk]; simp [lstObj]
 obtain ⟨B', S⟩ := B.set (s' := { w.s with heap := h' }) (o := .list (l ++ [r])) hD hs rfl rfl (Nat.le_refl _) ⟨_, hk'⟩ (fun S => .list hk' ((h3.step0 S).append (.cons (hy.step0 S) .nil)) (by rw [datL_append, d]; simp [datL, hd])) (fun q_ e => by cases e)
 exact K ⟨w.ρ, w.π, _⟩ S rfl B'
structure Free (C : Ct) (env : Env) (w0 w : Wd) (L : Addr) : Prop where
 fr : L ∉ fr env
 new : w0.h.get? L = none
 h₀ : C.h₀.get? L = none
 rho : L ∉ w.ρ
 pin : L ∉ w.π
noncomputable def SrcAt (C : Ct) (n : Nat) (A : Around) (env : Env) (σ : Loc) (w : Wd) (iter : PySem.Expr) (H1 : List HObj) (Ok : List HObj → Prop) (T : PySem.Expr → Bool) (l : List V) : Prop :=
 ∀ (Q E : Value → Shared → Prop), (∀ w1 w' it X P P', Step [] w w1 → BSt C w1 H1 → FSt C w1 env σ → Step [] w1 w' → BSt C w' H1 → (∀ a ∈ X, w1.h.get? a = none) → NextOk C n Ok T it X l P P' → P 0 w' → Q it w'.s) →
  wpAny C.M A (eval iter env) (fun y s => wpAny C.M A (pyIter y) Q E s) E w.s
theorem SrcE.at {iter : PySem.Expr} {Ok : List HObj → Prop} {T : PySem.Expr → Bool} {l : List V} {A : Around} {w : Wd} (he : SrcE C n env σ H iter H1 Ok T l) (R : Room A n) (B : BSt C w H) (F : FSt C w env σ) : SrcAt C n A env σ w iter H1 Ok T l := fun Q E K => he A w Q E R B F K
theorem comp_laid {cenv : Env} {Ok : List HObj → Prop} {T : PySem.Expr → Bool} {it : Value} {X : List Addr} {l : List V} {P : Nat → Wd → Prop} {P' : Nat → Value → Wd → Prop} (N : NextOk C n Ok T it X l P P') {i : Nat} {w1 w7 w8 : Wd}
  (h : ForAt C cenv [] X w1 w1 w7 H σ) (p : P i w7) (S : Step [cenv.locals] w7 w8) (B : BSt C w8 H) (F : FSt C w8 cenv σ1) (hL : w1.h.get? cenv.locals = none) : w8.ρ = w7.ρ ∧ ForAt C cenv [] X w1 w1 w8 H σ1 ∧ P i w8 := by
 have hr : w8.ρ = w7.ρ := by
  obtain ⟨δ, e, _⟩ := S.rho
  have l8 := B.len
  rw [e, List.length_append, h.B.len] at l8
  rw [e, List.eq_nil_of_length_eq_zero (by lia : δ.length = 0), List.append_nil]
 have hm : ∀ a ∈ [cenv.locals], w1.h.get? a = none := fun a m => by rw [List.mem_singleton.mp m]; exact hL
 have a := N.apart p h.B h.F h.pi
 exact ⟨hr, ⟨h.new, h.stays, h.pins, h.S1, h.S0.mix S hr hm, h.S.mix S hr hm, B, F⟩, N.mono i w7 w8 [cenv.locals] p S (fun a m => by rw [List.mem_singleton.mp m]; exact h.F.nonSeq _ (.head _)) (fun q m z => a.1 q m (by rw [List.mem_singleton.mp z]; exact .head _)) a.2.1⟩
inductive CompI (C : Ct) (n : Nat) (cenv : Env) (target : PySem.Expr) (ifs : List PySem.Expr) (elt : PySem.Expr) (σ : Loc) (H1 : List HObj) (X : List Addr) (l rs : List V) (P : Nat → Wd → Prop) (w1 : Wd) (D : Addr) (j : Nat) (s' : Shared) : Prop
 | mk (w' : Wd) (acc : List V) (i : Nat) (rs' : List V) : s' = w'.s → ForAt C cenv [] X w1 w1 w' (H1 ++ [.list acc]) σ → P i w' → i ≤ l.length → j = (l.drop i).length → Co C n cenv target ifs elt σ H1 (l.drop i) rs' → acc ++ rs' = rs → acc.length ≤ i → w'.ρ[H1.length]? = some D → CompI C n cenv target ifs elt σ H1 X l rs P w1 D j s'
theorem ite_t {p q : Prop} (h : p) : if true = true then p else q := h
theorem ite_f {p q : Prop} (h : q) : if false = true then p else q := h
theorem comp_go {elt target : PySem.Expr} {ifs : List PySem.Expr} {Ok : List HObj → Prop} {T : PySem.Expr → Bool} {L l acc rs : List V} {A : Around} {cenv : Env} {it : Value} {X : List Addr} {P : Nat → Wd → Prop} {P' : Nat → Value → Wd → Prop} {w1 w5 : Wd} {D : Addr} {i : Nat} {R' : Result → Shared → Prop} {Nx : Shared → Prop}
  (N : NextOk C n Ok T it X L P P') (R : Room A n) (hT : T target = true) (hOk : ∀ K, Ok (H1 ++ K)) (hlen : L.length ≤ sizeLine) (hL : w1.h.get? cenv.locals = none) (h5 : ForAt C cenv [] X w1 w1 w5 (H1 ++ [.list acc]) σ) (p5 : P i w5) (hi : i ≤ L.length) (hl : L.drop i = l)
  (hco : Co C n cenv target ifs elt σ H1 l rs) (hai : acc.length ≤ i) (hρ5 : w5.ρ[H1.length]? = some D)
  (K : rs = [] → ∀ w6, ForAt C cenv [] X w1 w1 w6 (H1 ++ [.list acc]) σ → w6.ρ[H1.length]? = some D → R' (.ok .next) w6.s)
  (hN : ∀ w' acc' rs', acc' ++ rs' = acc ++ rs → ForAt C cenv [] X w1 w1 w' (H1 ++ [.list acc']) σ → P (i + 1) w' → i + 1 ≤ L.length → Co C n cenv target ifs elt σ H1 (L.drop (i + 1)) rs' → acc'.length ≤ i + 1 → w'.ρ[H1.length]? = some D → Nx w'.s) :
  CompGoal C.prog C.w A R' elt target ifs it (.ref D) cenv Nx w5.s := by
 cases l with
 | nil =>
  have hlen' : i = L.length := Nat.le_antisymm hi (List.drop_eq_nil_iff.mp hl)
  subst hlen'
  exact N.fin A w5 _ _ _ R h5.B (hOk _) p5 (N.apart p5 h5.B h5.F h5.pi).2.2 fun w6 S56 hr ht => K hco.nilv w6 (h5.back (N.fld _ _ p5) S56 hr ht) (by rw [hr]; exact hρ5)
 | cons v l =>
  cases hco.uncons with
  | cons σ0 r rs' ha ht he hd hsub hr2 hrs =>
   refine turn_own N h5 R hT hl (hOk _) p5 (fun w7 y h7 p7 r7 hr7 hdrop hlt => ha _ A w7 y _ _ R h7.B h7.F r7 fun w8 S78 B8 F8 => ht _ A w8 _ _ R B8 F8 fun w9 S89 B9 F9 => ite_t (he _ A w9 _ _ R B9 F9 fun w10 z S910 B10 F10 r10 => ?_)) (fun q_ q_ q => q)
   have c := comp_laid N h7 p7 S78 B8 F8 hL
   have d10 : w10.ρ[H1.length]? = some D := S910.at (S89.at (by rw [c.1, hr7]; exact hρ5))
   have hset : ∀ u, (H1 ++ [HObj.list acc]).set H1.length u = H1 ++ [u] := fun u => by simp
   exact appendAt (l := acc) B10 d10 (by simp) r10 hd (Nat.le_trans hai (Nat.le_trans hi hlen)) fun w11 S1011 hr11 B11 =>
    have S := (S89.trans S910).trans S1011
    hN w11 (acc ++ [r]) rs' (by rw [hrs, List.append_assoc]; rfl) (c.2.1.go S (hset (.list (acc ++ [r])) ▸ B11) ((F10.weak hsub).step0 S1011)) (N.mono (i + 1) w8 w11 [] c.2.2 S .nil (fun q_ q_ z => nomatch z) (N.apart c.2.2 B8 F8 c.2.1.pi).2.1) hlt (hdrop ▸ hr2)
     (by rw [List.length_append]; exact Nat.succ_le_succ hai) (by rw [hr11]; exact d10)
  | skip σ0 ha ht hsub hr2 =>
   exact turn_own N h5 R hT hl (hOk _) p5 (fun w7 y h7 p7 r7 hr7 hdrop hlt => ha _ A w7 y _ _ R h7.B h7.F r7 fun w8 S78 B8 F8 => ht _ A w8 _ _ R B8 F8 fun w9 S89 B9 F9 => ite_f
    (have c := comp_laid N h7 p7 S78 B8 F8 hL
    hN w9 acc rs rfl (c.2.1.go S89 B9 (F9.weak hsub)) (N.mono (i + 1) w8 w9 [] c.2.2 S89 .nil (fun q_ q_ z => nomatch z) (N.apart c.2.2 B8 F8 c.2.1.pi).2.1) hlt (hdrop ▸ hr2) (Nat.le_succ_of_le hai) (S89.at (by rw [c.1, hr7]; exact hρ5)))) (fun q_ q_ q => q)
theorem comp_loop {scope : Scope} {elt target iter : PySem.Expr} {ifs : List PySem.Expr} {Ok : List HObj → Prop} {T : PySem.Expr → Bool} {l rs : List V} (hT : T target = true) (hOk : ∀ K, Ok (H1 ++ K)) (hlen : l.length ≤ sizeLine) {A : Around} {cenv : Env} {it : Value} {X : List Addr} {P : Nat → Wd → Prop} {P' : Nat → Value → Wd → Prop} {w1 w4 : Wd} {D : Addr} {R' : Result → Shared → Prop}
  (N : NextOk C n Ok T it X l P P') (R : Room A n) (h4 : ForAt C cenv [] X w1 w1 w4 (H1 ++ [.list []]) σ) (p4 : P 0 w4) (hρ : w4.ρ[H1.length]? = some D) (hL : w1.h.get? cenv.locals = none) (hco : Co C n cenv target ifs elt σ H1 l rs)
  (K : ∀ w6, ForAt C cenv [] X w1 w1 w6 (H1 ++ [.list rs]) σ → w6.ρ[H1.length]? = some D → R' (.ok .next) w6.s) : codeAny C.M A (.compLoop (.ListComp elt [⟨target, iter, ifs, 0⟩] scope pos) 0 it (.ref D) cenv) R' w4.s := by
 refine codeAny_compLoopL (CompI C n cenv target ifs elt σ H1 X l rs P w1 D) (fun j s I => ?_) l.length ⟨w4, [], 0, rs, rfl, h4, p4, Nat.zero_le _, rfl, hco, rfl, Nat.zero_le _, hρ⟩
 obtain ⟨w5, acc, i, rs5, rfl, h5, p5, hi, rfl, hco5, hacc, hai, hρ5⟩ := I
 exact comp_go N R hT hOk hlen hL h5 p5 hi rfl hco5 hai hρ5 (fun z w6 h6 d6 => K w6 (by rw [z, List.append_nil] at hacc; exact hacc ▸ h6) d6) fun w' acc' rs' e h p hi' hc ha hd => ⟨_, drop_lt hi', w', acc', i + 1, rs', rfl, h, p, hi', rfl, hc, e.trans hacc, ha, hd⟩
theorem NextOk.hard {Ok : List HObj → Prop} {T : PySem.Expr → Bool} {it : Value} {X : List Addr} {l : List V} {P : Nat → Wd → Prop} {P' : Nat → Value → Wd → Prop} (N : NextOk C n Ok T it X l P P') {i : Nat} {w w' : Wd} (p : P i w) (B : BSt C w H) (S : Step [] w w') : P i w' :=
 N.mono i w w' [] p S .nil (fun q_ q_ z => nomatch z) fun a m q => by
  obtain ⟨o, vs, T, ho, hd, hc, hT⟩ := N.fld i w p a m
  obtain ⟨j, hj⟩ := List.getElem?_of_mem q
  have hl : j < H.length := by rw [← B.len]; exact (List.getElem?_eq_some_iff.mp hj).1
  exact (B.obj j a _ hj (List.getElem?_eq_getElem hl)).hard ho hd hc hT
theorem Step.none0 {w w' : Wd} (S : Step [] w w') {L : Addr} (h : w'.h.get? L = none) : w.h.get? L = none := by
 cases e : w.h.get? L with
 | none => rfl
 | some o =>
  obtain ⟨o', e'⟩ := S.live L o e fun z => nomatch z
  exact nomatch h.symm.trans e'
theorem new_tracked {w2 : Wd} (B2 : BSt C w2 H) : ∃ w3 : Wd, w3.s = { w2.s with heap := w2.s.heap.push { cls := .type "list", data := .seq ([] : List Value).toArray } } ∧ BSt C w3 (H ++ [.list []]) ∧ Step [] w2 w3 ∧ w3.ρ[H.length]? = some w2.s.heap.objs.size := by
 obtain ⟨B3, S3⟩ := B2.track (a := w2.s.heap.objs.size) (s' := { w2.s with heap := w2.s.heap.push { cls := .type "list", data := .seq ([] : List Value).toArray } }) (o := .list []) (fun b ob e => Heap.get?_push_of_some _ e) rfl rfl (Nat.le_refl _) (size_none _) B2.size3 (fun q_ => .list (n := 0) (vs := []) (Heap.get?_push_size _ rfl) .nil rfl) (fun q_ e => by cases e)
 exact ⟨_, rfl, B3, S3, by rw [← B2.len]; simp⟩
theorem comp_core {scope : Scope} {elt target iter : PySem.Expr} {ifs : List PySem.Expr} {Ok : List HObj → Prop} {T : PySem.Expr → Bool} {l rs : List V} (hT : T target = true) (hOk : ∀ K, Ok (H1 ++ K)) (ok : compOk scope env.scope = true)
  (hco : ∀ cenv : Env, cenv.scope = relS scope env.scope → Co C n cenv target ifs elt (inner scope σ) H1 l rs) (hlen : l.length ≤ sizeLine) (hfold : ∀ (env : Env) x, foldedSetIterable iter env x = pure x)
  {A : Around} {w : Wd} {Q E : Value → Shared → Prop} {use : Option (Value → Sem Unit)} {pos' : Pos} (R : Room A n) (F : FSt C w env σ) (he : SrcAt C n A env σ w iter H1 Ok T l)
  (K : ∀ w' L D m, Step [] w w' → BSt C w' (H1 ++ [.list rs]) → FSt C w' env σ → w'.ρ[H1.length]? = some D → w'.h.Ns L m → Free C env w w' L → Cl H1 → compPost C.M A E use Q (.ref D) L (.ok .next) w'.s) :
  wpAny C.M A (comprehension (.ListComp elt [⟨target, iter, ifs, 0⟩] scope pos) scope env pos' (newList []) false (eval iter env) use) Q E w.s := by
 have okk := ok
 simp only [compOk, Bool.and_eq_true, beq_iff_eq, decide_eq_true_eq, List.all_eq_true, Bool.or_eq_true, bne_iff_ne, ne_eq] at okk
 obtain ⟨⟨hk, nd⟩, hall⟩ := okk
 have hcl : closureFor scope env = pure (clos env scope.names []) := closureFor_eq fun p m e => F.full _ ((hall p m).2.resolve_left fun z => z e)
 refine wpAny_comprehension_free (use := use) rfl (hfold env) hcl hk (fun x m e => lookup_of_nodup nd (by rw [← e]; exact m)) ?_
 refine he _ E fun w1 w2 it X P P' S1 B1 F1 S2 B2 hX N p2 => ?_
 refine wpAny_newObj_type ?_
 obtain ⟨w3, es3, B3, S3, hρ3⟩ := new_tracked B2
 rw [← es3]
 have F3 := (F1.step0 S2).step0 S3
 have p3 := N.hard p2 B2 S3
 generalize w2.s.heap.objs.size = D at hρ3 ⊢
 clear es3 he p2
 refine wpAny_newFunctionEnv (fun x m => (hall x m).1) (by intro x hx; cases hx) (fun h4 hn4 hs4 => ?_) hk
 generalize hL : w3.s.heap.objs.size = L at hn4 hs4
 have hLn : w3.h.get? L = none := by rw [← hL]; exact size_none _
 have X4 : Ext w3 ⟨w3.ρ, w3.π, { w3.s with heap := h4, toks := w3.s.toks + ([] : List (Str × Value)).length }⟩ := ⟨rfl, fun b o e => (hs4.2 b fun q => by rw [q, hLn] at e; cases e).trans (Heap.get?_push_of_some _ e), rfl, rfl, rfl, Nat.le_refl _⟩
 have F4 := (comp_frame F3 B3 ok (X4.step (X := [])) hLn hn4).2 (B3.fresh hLn)
 have S13 := S2.trans S3
 have S14 := S13.trans X4.step
 have p4 := N.hard p3 B3 X4.step
 have B4 := B3.ext X4
 have hL1 := S13.none0 hLn
 have hf1 : L ∉ fr env := fun m => by
  obtain ⟨o, e⟩ := F3.alive L m
  exact nomatch hLn.symm.trans e
 have hf2 := S1.none0 hL1
 have hco' := hco (compEnvC scope (clos env scope.names []) L env) rfl
 show codeAny C.M A (.compStart (.ListComp elt [⟨target, iter, ifs, 0⟩] scope pos) 0 it (.ref D) (compEnvC scope (clos env scope.names []) L env)) (compPost C.M A E use Q (.ref D) L) _
 have loop := comp_loop (pos := pos) (scope := scope) (iter := iter) (R' := compPost C.M A E use Q (.ref D) L) hT hOk hlen N R ⟨hX, B1.stays, fun a m => (B1.pins a m).2, Step.refl _ _, S14, S14, B4, F4⟩ p4 hρ3 hL1 hco' fun w6 h6 hρ6 => by
  obtain ⟨m, hm, _⟩ := h6.F.ns
  exact K w6 L D m (S1.trans h6.S) h6.B (F1.step0 h6.S) hρ6 hm ⟨hf1, hf2, h6.F.own _ (.head _), h6.F.out, h6.F.pin _ (.head _)⟩ B1.tops
 exact codeAny_compStart_list loop (N.self A _ _ _ R p4 loop)
theorem letgo {w0 w : Wd} {L : Addr} {m : Str → Option Value} {H : List HObj} {σ : Loc} (f : Free C env w0 w L) (hn : w.h.Ns L m) (B : BSt C w H) (F : FSt C w env σ) {X : List Addr} (S : Step X w0 w) {h' : Heap} (hs : Heap.SameBut L w.s.heap h') :
  ∃ w', w'.s = { w.s with heap := h' } ∧ w'.ρ = w.ρ ∧ BSt C w' H ∧ FSt C w' env σ ∧ Step X w0 w' := by
 have S67 : Step [L] w ⟨w.ρ, w.π, { w.s with heap := h' }⟩ := ⟨⟨[], by simp, by simp⟩, fun b o e q_ q => (hs.2 b fun z => q (z ▸ .head _)).trans e, fun b o e q => ⟨o, (hs.2 b fun z => q (z ▸ .head _)).trans e⟩, rfl, rfl, rfl, Nat.le_refl _⟩
 have hNS : NonSeq w [L] := fun a q => by
  rw [List.mem_singleton.mp q]
  refine ⟨f.pin, fun o ho => ?_⟩
  obtain ⟨o', es, ep, ho', hd, _⟩ := hn
  obtain rfl := Option.some.inj (ho.symm.trans ho'); exact .inr (.inl ⟨_, _, hd⟩)
 exact ⟨⟨w.ρ, w.π, { w.s with heap := h' }⟩, rfl, rfl, B.turn hNS S67 rfl (fun a o e m => by rw [List.mem_singleton.mp m, f.h₀] at e; cases e) fun a q o e => (hs.2 a fun z => f.rho (z ▸ q)).trans e,
  F.step hNS (fun a q z => f.fr (by rw [← List.mem_singleton.mp z]; exact q)) S67, S.mix S67 rfl fun a q => by rw [List.mem_singleton.mp q]; exact f.new⟩
theorem Ev.compAt {scope : Scope} {elt target iter : PySem.Expr} {ifs : List PySem.Expr} {Ok : List HObj → Prop} {T : PySem.Expr → Bool} {l rs : List V} (hT : T target = true) (hOk : ∀ K, Ok (H1 ++ K)) (ok : compOk scope env.scope = true)
  (hco : ∀ cenv : Env, cenv.scope = relS scope env.scope → Co C n cenv target ifs elt (inner scope σ) H1 l rs) (hlen : l.length ≤ sizeLine) (hfold : ∀ (env : Env) x, foldedSetIterable iter env x = pure x)
  {A : Around} {w : Wd} {Q E : Value → Shared → Prop} (hH : w.ρ.length ≤ H1.length) (R : Room A n) (F0 : FSt C w env σ) (he : SrcAt C n A env σ w iter H1 Ok T l)
  (K : ∀ w' y, Step [] w w' → BSt C w' H1 → FSt C w' env σ → VRel w' (.lst rs) y → Q y w'.s) : wpAny C.M A (eval (.ListComp elt [⟨target, iter, ifs, 0⟩] scope pos) env) (fun v s => Q v s) E w.s := by
 rw [eval_ListComp]
 refine comp_core (use := Option.none) hT hOk ok hco hlen hfold R F0 he fun w0 L D m S B' F' h hn f hcl => ⟨m, hn, fun h' hs' => ?_⟩
 obtain ⟨w', e7, r7, B', F, S⟩ := letgo f hn B' F' S hs'
 rw [← e7]
 rw [← r7] at h
 have B'' := (B'.lower H1.length (by rw [List.take_left]; exact hcl) (by simp)).1
 rw [List.take_left] at B''
 have S' := S.lower (m := H1.length) hH
 exact K ⟨w'.ρ.take H1.length, w'.π, w'.s⟩ _ S' B'' (F0.step0 S') (Fz.rel (H := H1 ++ [.list rs]) B' (.lst (by simp) (Nat.le_refl _)) (.ref h))
theorem Ev.comp {scope : Scope} {elt target iter : PySem.Expr} {ifs : List PySem.Expr} {Ok : List HObj → Prop} {T : PySem.Expr → Bool} {l rs : List V} (he : SrcE C n env σ H iter H1 Ok T l) (hT : T target = true) (hOk : ∀ K, Ok (H1 ++ K)) (ok : compOk scope env.scope = true)
  (hco : ∀ cenv : Env, cenv.scope = relS scope env.scope → Co C n cenv target ifs elt (inner scope σ) H1 l rs) (hlen : l.length ≤ sizeLine) (hfold : ∀ (env : Env) x, foldedSetIterable iter env x = pure x) (hH : H.length ≤ H1.length) :
  Ev C n env σ H (.ListComp elt [⟨target, iter, ifs, 0⟩] scope pos) H1 (.lst rs) := by
 intro A w Q E R B F0 K
 rw [eval_ListComp]
 refine comp_core (use := Option.none) hT hOk ok hco hlen hfold R F0 (he.at R B F0) fun w0 L D m S B' F' h hn f hcl => ⟨m, hn, fun h' hs' => ?_⟩
 obtain ⟨w', e7, r7, B', F, S⟩ := letgo f hn B' F' S hs'
 rw [← e7]
 rw [← r7] at h
 have B'' := (B'.lower H1.length (by rw [List.take_left]; exact hcl) (by simp)).1
 rw [List.take_left] at B''
 have S' := S.lower (m := H1.length) (by rw [B.len]; exact hH)
 exact K ⟨w'.ρ.take H1.length, w'.π, w'.s⟩ _ S' B'' (F0.step0 S') (Fz.rel (H := H1 ++ [.list rs]) B' (.lst (by simp) (Nat.le_refl _)) (.ref h))
theorem Es.compT {scope : Scope} {elt target iter : PySem.Expr} {ifs : List PySem.Expr} {Ok : List HObj → Prop} {T : PySem.Expr → Bool} {l rs : List V} {x : Str} {pos' spos : Pos} (he : SrcE C n env σ H iter H1 Ok T l) (hT : T target = true) (hOk : ∀ K, Ok (H1 ++ K)) (ok : compOk scope env.scope = true)
  (hco : ∀ cenv : Env, cenv.scope = relS scope env.scope → Co C n cenv target ifs elt (inner scope σ) H1 l rs) (hlen : l.length ≤ sizeLine) (hfold : ∀ (env : Env) x, foldedSetIterable iter env x = pure x) (hk : Sto env x)
  (hsw : swapsWith (.ListComp elt [⟨target, iter, ifs, 0⟩] scope pos) (some (.Name x pos')) spos.line env = pure true) :
  Es C n env σ H (.Assign [.Name x pos'] (.ListComp elt [⟨target, iter, ifs, 0⟩] scope pos) spos) (.next ((x, .ref H1.length) :: σ) (H1 ++ [.list rs])) := by
 intro A w Q E R B F K
 rw [exec_Assign_Name_used _ _ _ _ hsw]
 refine wpAny_bind (wpAny_standAt (wpAny_bind ?_))
 show wpAny _ A (do let _ ← comprehension (.ListComp elt [⟨target, iter, ifs, 0⟩] scope pos) scope env _ (newList []) false (eval iter env) (some (PySem.assign (.Name x pos') env))) _ _ w.s
 refine wpAny_bind (wpAny_mono (comp_core (use := some (PySem.assign (.Name x pos') env)) (Q := fun q_ s' => Q .next s') hT hOk ok hco hlen hfold R F (he.at R B F) fun w' L D m S B' F' h hn f hcl => ?_) (fun q_ s' hq => wpAny_pure (wpAny_pure hq)) fun q_ q_ e => e)
 refine wpAny_assign_Name (store B' F' (.ref h) hk fun w7 S7 B7 F7 => ?_)
 obtain ⟨o, es, ep, ho, hd⟩ := hn
 have ho7 := S7.keep L o ho f.rho fun z => f.fr (fw_fr z)
 refine ⟨m, ⟨o, es, ep, ho7, hd⟩, fun h' hs' => ?_⟩
 have f7 : Free C env w w7 L := ⟨f.fr, f.new, f.h₀, S7.notin ho f.rho, by rw [S7.pin]; exact f.pin⟩
 obtain ⟨w8, e8, r8, B8, F8, S8⟩ := letgo f7 ⟨o, es, ep, ho7, hd⟩ B7 F7 (F.swide S S7) hs'
 rw [← e8]
 exact K w8 _ S8 (.next B8 F8)
theorem Es.comp {scope : Scope} {elt target iter : PySem.Expr} {ifs : List PySem.Expr} {Ok : List HObj → Prop} {T : PySem.Expr → Bool} {l rs : List V} {x : Str} {pos' spos : Pos} (he : SrcE C n env σ H iter H1 Ok T l) (hT : T target = true) (hOk : ∀ K, Ok (H1 ++ K)) (ok : compOk scope env.scope = true)
  (hco : ∀ cenv : Env, cenv.scope = relS scope env.scope → Co C n cenv target ifs elt (inner scope σ) H1 l rs) (hlen : l.length ≤ sizeLine) (hfold : ∀ (env : Env) x, foldedSetIterable iter env x = pure x) (hH : H.length ≤ H1.length) (hk : Sto env x)
  (hsw : swapsWith (.ListComp elt [⟨target, iter, ifs, 0⟩] scope pos) (some (.Name x pos')) spos.line env = pure true) :
  Es C n env σ H (.Assign [.Name x pos'] (.ListComp elt [⟨target, iter, ifs, 0⟩] scope pos) spos) (.next ((x, .lst rs) :: σ) H1) := by
 intro A w Q E R B F K
 rw [exec_Assign_Name_used _ _ _ _ hsw]
 refine wpAny_bind (wpAny_standAt (wpAny_bind ?_))
 show wpAny _ A (do let _ ← comprehension (.ListComp elt [⟨target, iter, ifs, 0⟩] scope pos) scope env _ (newList []) false (eval iter env) (some (PySem.assign (.Name x pos') env))) _ _ w.s
 refine wpAny_bind (wpAny_mono (comp_core (use := some (PySem.assign (.Name x pos') env)) (Q := fun q_ s' => Q .next s') hT hOk ok hco hlen hfold R F (he.at R B F) fun w' L D m S B' F' h hn f hcl => ?_) (fun q_ s' hq => wpAny_pure (wpAny_pure hq)) fun q_ q_ e => e)
 have B'' := (B'.lower H1.length (by rw [List.take_left]; exact hcl) (by simp)).1
 rw [List.take_left] at B''
 have S' := S.lower (m := H1.length) (by rw [B.len]; exact hH)
 have F'' := F.step0 S'
 have r'' := Fz.rel (H := H1 ++ [.list rs]) (m := H1.length) (v' := .lst rs) B' (.lst (by simp) (Nat.le_refl _)) (.ref h)
 have f'' : Free C env w ⟨w'.ρ.take H1.length, w'.π, w'.s⟩ L := ⟨f.fr, f.new, f.h₀, fun z => f.rho (List.mem_of_mem_take z), f.pin⟩
 refine wpAny_assign_Name (store (w := ⟨w'.ρ.take H1.length, w'.π, w'.s⟩) B'' F'' r'' hk fun w7 S7 B7 F7 => ?_)
 obtain ⟨o, es, ep, ho, hd⟩ := hn
 have ho7 := S7.keep L o ho f''.rho fun z => f.fr (fw_fr z)
 refine ⟨m, ⟨o, es, ep, ho7, hd⟩, fun h' hs' => ?_⟩
 have f7 : Free C env w w7 L := ⟨f.fr, f.new, f.h₀, S7.notin ho f''.rho, by rw [S7.pin]; exact f.pin⟩
 obtain ⟨w8, e8, r8, B8, F8, S8⟩ := letgo f7 ⟨o, es, ep, ho7, hd⟩ B7 F7 (F.swide S' S7) hs'
 rw [← e8]
 exact K w8 _ S8 (.next B8 F8)
end
end
section
noncomputable def AsL (C : Ct) (n : Nat) (env : Env) (X : List Addr) (ts : List PySem.Expr) (vs : List V) (σ : Loc) (H : List HObj) (σ' : Loc) : Prop :=
 (assignEach ts env).length = vs.length ∧ (assignEach ts env).findIdx? (·.1) = none ∧ ∀ (A : Around) (w : Wd) (ys : List Value) (Q : Unit → Shared → Prop) (E : Value → Shared → Prop), Room A n → BSt C w H → FSt C w env σ → (∀ {w : Wd} {σ : Loc}, FSt C w env σ → NonSeq w X) → VRels w vs ys →
  (∀ w', Step X w w' → BSt C w' H → FSt C w' env σ' → Q () w'.s) → wpAny C.M A (assignInOrder ((assignEach ts env).map (·.2)) ys) Q E w.s
section
variable {C : Ct} {n : Nat} {env : Env} {σ σ' σ1 : Loc} {H H' H0 H1 H2 H3 : List HObj} {pos p pos' tpos : Pos} {k : Nat} {x : Str} {v v1 v2 v3 : V} {e e1 e2 e3 : PySem.Expr} {o : Out} {es : List PySem.Expr} {vs : List V}
theorem Ev.tup (h : EvL C n env σ H pos es H1 vs) (hl : vs.length ≤ sizeLine := by first | exact Nat.le_of_ble_eq_true rfl | (simp; done) | (simp; omega)) : Ev C n env σ H (.Tuple es k pos) H1 (.tup vs) := by
 intro A w Q E R B F K
 refine wpAny_Tuple (h A w _ E R B F fun w1 ys S1 B1 F1 r1 => ⟨by rw [r1.length]; exact hl, ?_⟩)
 have X : Ext w1 ⟨w1.ρ, w1.π, { w1.s with heap := w1.s.heap.push { cls := .type "tuple", data := .seq ys.toArray } }⟩ := Ext.push _
 exact K ⟨w1.ρ, w1.π, _⟩ _ (S1.trans X.step) (B1.ext X) (F1.ext X) (.tup (n := 0) (Heap.get?_push_size _ rfl) (B1.fresh (size_none _)) (r1.ext X))
theorem Ev.lst (h : EvL C n env σ H pos es H1 vs) (hl : vs.length ≤ sizeLine := by first | exact Nat.le_of_ble_eq_true rfl | (simp; done) | (simp; omega)) : Ev C n env σ H (.List es pos) H1 (.lst vs) := by
 intro A w Q E R B F K
 refine wpAny_List (h A w _ E R B F fun w1 ys S1 B1 F1 r1 => ⟨by rw [r1.length]; exact hl, ?_⟩)
 have X : Ext w1 ⟨w1.ρ, w1.π, { w1.s with heap := w1.s.heap.push { cls := .type "list", data := .seq ys.toArray } }⟩ := Ext.push _
 exact K ⟨w1.ρ, w1.π, _⟩ _ (S1.trans X.step) (B1.ext X) (F1.ext X) (.lst (n := 0) (Heap.get?_push_size _ rfl) (B1.fresh (size_none _)) (r1.ext X))
theorem Ev.lstT (h : EvL C n env σ H pos es H1 vs) (hl : vs.length ≤ sizeLine) (hd : datL vs = true) : Ev C n env σ H (.List es pos) (H1 ++ [.list vs]) (.ref H1.length) := by
 intro A w Q E R B F K
 refine wpAny_List (h A w _ E R B F fun w1 ys S1 B1 F1 r1 => ⟨by rw [r1.length]; exact hl, ?_⟩)
 have X : Ext w1 ⟨w1.ρ, w1.π, { w1.s with heap := w1.s.heap.push { cls := .type "list", data := .seq ys.toArray } }⟩ := Ext.push _
 have hk : (w1.s.heap.push { cls := .type "list", data := .seq ys.toArray }).get? w1.s.heap.objs.size = some (lstObj ys 0) := Heap.get?_push_size _ rfl
 obtain ⟨B2, S2⟩ := B1.track (s' := { w1.s with heap := w1.s.heap.push { cls := .type "list", data := .seq ys.toArray } }) (a := w1.s.heap.objs.size) (o := .list vs) (fun b ob e => Heap.get?_push_of_some _ e) rfl rfl (Nat.le_refl _) (size_none _) B1.size3
  (fun S => .list hk (r1.step0 S) hd) (fun q_ e => by cases e)
 exact K _ _ (S1.trans S2) B2 (F1.step0 S2) (.ref (by rw [← B1.len]; simp))
theorem AsL.nil {X : List Addr} : AsL C n env X [] [] σ H σ := ⟨rfl, rfl, fun A w ys Q E R B F q_ r K => by cases r.inv0; exact assignInOrder_nil (K w (Step.refl _ _) B F)⟩
theorem AsL.cons {X : List Addr} {t : PySem.Expr} {ts : List PySem.Expr} {σ2 : Loc} (ha : Ast C n env X t v σ H σ1) (h : AsL C n env X ts vs σ1 H σ2) (he : ∀ env : Env, assignEach (t :: ts) env = (false, PySem.assign t env) :: assignEach ts env := by exact fun q_ => rfl) : AsL C n env X (t :: ts) (v :: vs) σ H σ2 := by
 obtain ⟨h1, h2, h3⟩ := h
 refine ⟨by rw [he]; exact congrArg (· + 1) h1, by rw [he, List.findIdx?_cons, h2]; rfl, fun A w ys Q E R B F hX r K => ?_⟩
 obtain ⟨_, _, rfl, r0, r1⟩ := r.inv
 rw [he]
 exact assignInOrder_cons (ha A w _ _ E R B F r0 fun w1 S1 B1 F1 => h3 A w1 _ Q E R B1 F1 hX (r1.step (hX F) S1) fun w2 S2 B2 F2 => K w2 (S1.trans S2) B2 F2)
end
end
section
noncomputable def Aug (C : Ct) (n : Nat) (op : Operator) (a b : V) (H H' : List HObj) (v : V) : Prop :=
 ∀ (A : Around) (w : Wd) (Q E : Value → Shared → Prop) (x y : Value), Room A n → BSt C w H → VRel w a x → VRel w b y →
  (∀ w' r, Step [] w w' → BSt C w' H' → VRel w' v r → Q r w'.s) → wpAny C.M A (inplaceOp op x y) Q E w.s
noncomputable def BoV (C : Ct) (n : Nat) (env : Env) (σ : Loc) (op : BoolOp) (es : List PySem.Expr) (H H' : List HObj) (v : V) : Prop :=
 ∀ (A : Around) (w : Wd) (Q E : Value → Shared → Prop) (pos : Pos), Room A n → BSt C w H → FSt C w env σ → (∀ w' y, Step [] w w' → BSt C w' H' → FSt C w' env σ → VRel w' v y → Q y w'.s) → wpAny C.M A (boolOp pos op (evalEach es env)) Q E w.s
noncomputable def BoT (C : Ct) (n : Nat) (env : Env) (σ : Loc) (op : BoolOp) (es : List PySem.Expr) (H H' : List HObj) (b : Bool) : Prop :=
 ∀ (A : Around) (w : Wd) (Q : Bool → Shared → Prop) (E : Value → Shared → Prop), Room A n → BSt C w H → FSt C w env σ → (∀ w', Step [] w w' → BSt C w' H' → FSt C w' env σ → Q b w'.s) → wpAny C.M A (allTrue op es env) Q E w.s
noncomputable def Typ (C : Ct) (H : List HObj) (v : V) (T : String) : Prop := ∀ (w : Wd) (x : Value), BSt C w H → VRel w v x → w.s.TypeIs x T ∧ ∀ a, x = .ref a → ∃ ob, w.s.heap.get? a = some ob ∧ ob.dict = none
structure Mth (C : Ct) (n : Nat) (name : Str) (o : V) (args : List V) (H H' : List HObj) (v : V) (T id : String) : Prop where
 pa : PlainAttrs T
 slot : PySem.Slot T name id
 ty : typeOf (.builtin id) = pure (.type "method_descriptor")
 fn : Fn C n (.val (.builtin id)) (o :: args) [] H H' v
section
variable {C : Ct} {n : Nat} {env : Env} {σ σ' σ1 : Loc} {H H' H0 H1 H2 H3 : List HObj} {pos p pos' tpos : Pos} {k : Nat} {x : Str} {v v1 v2 v3 : V} {e e1 e2 e3 : PySem.Expr} {o : Out} {es : List PySem.Expr} {vs : List V}
theorem Ast.tup {X : List Addr} {ts : List PySem.Expr} (h : AsL C n env X ts vs σ H σ') (hX : ∀ {w : Wd} {σ : Loc}, FSt C w env σ → NonSeq w X) : Ast C n env X (.Tuple ts k tpos) (.tup vs) σ H σ' := by
 intro A w y Q E R B F r K
 obtain ⟨h1, h2, h3⟩ := h
 cases r with
 | @tup _ q ys m ho hn rv =>
 refine wpAny_assign_Tuple (items := ys.toArray) R.hd ⟨_, ho, rfl, _, rfl⟩ (by rw [h1, List.size_toArray, rv.length]) h2 fun h' hs => ?_
 have X1 : Ext w ⟨w.ρ, w.π, { w.s with heap := h' }⟩ := ⟨rfl, fun b o e => hs b o (Nat.ne_of_lt (Heap.lt_size e)) e, rfl, rfl, rfl, Nat.le_refl _⟩
 refine h3 A ⟨w.ρ, w.π, { w.s with heap := h' }⟩ _ _ _ R (B.ext X1) (F.ext X1) hX (by simpa using rv.ext X1) fun w2 S2 B2 F2 => ?_
 exact K w2 (X1.step.trans S2) B2 F2
theorem fw_nonSeq {w : Wd} {σ : Loc} (F : FSt C w env σ) : NonSeq w (fw env) := F.nonSeq
theorem locals_nonSeq {w : Wd} {σ : Loc} (F : FSt C w env σ) : NonSeq w [env.locals] := fun a m => by rw [List.mem_singleton.mp m]; exact F.nonSeq _ (.head _)
theorem Es.assignT {ts : List PySem.Expr} (h : Ev C n env σ H e H1 (.tup vs)) (ha : AsL C n env (fw env) ts vs σ H1 σ') (hs : swapsWithSole [.Tuple ts k tpos] e pos.line env = pure false) (hw : swappedStores [.Tuple ts k tpos] e env = pure none) :
  Es C n env σ H (.Assign [.Tuple ts k tpos] e pos) (.next σ' H1) := by
 intro A w Q E R B F K
 refine Assign_Tuple (h A w _ E R B F fun w1 y1 S1 B1 F1 r1 => ?_) hs hw
 exact Ast.tup ha fw_nonSeq A w1 y1 _ _ R B1 F1 r1 fun w2 S2 B2 F2 => K w2 _ (F.swide S1 S2) (.next B2 F2)
theorem bindAll (l : List (Str × V)) {σ : Loc} {A : Around} {w : Wd} {ys : List Value} {Q : Unit → Shared → Prop} {E : Value → Shared → Prop} (R : Room A n) (B : BSt C w H) (F : FSt C w env σ) (hk : ∀ p ∈ l, Sto env p.1) (r : VRels w (l.map (·.2)) ys)
  (K : ∀ w', Step (fw env) w w' → BSt C w' H → FSt C w' env (l.reverse ++ σ) → Q () w'.s) : wpAny C.M A (assignInOrder ((l.map (·.1)).map fun n => bindName env n) ys) Q E w.s := by
 induction l generalizing σ w ys with
 | nil =>
  obtain rfl := r.inv0
  exact assignInOrder_nil (K w (Step.refl _ _) B F)
 | cons p l ih =>
  obtain ⟨y, ys, rfl, r0, r1⟩ := r.inv
  refine assignInOrder_cons (bindName_ (store B F r0 (hk p (.head _)) fun w1 S1 B1 F1 => ?_))
  refine ih B1 F1 (fun q m => hk q (.tail _ m)) (r1.step F.nonSeq S1) fun w2 S2 B2 F2 => K w2 (S1.trans S2) B2 ?_
  rw [List.reverse_cons, List.append_assoc]; exact F2
theorem VRels.rev {w : Wd} {l : List V} {ys : List Value} (r : VRels w l ys) : VRels w l.reverse ys.reverse := by
 induction l generalizing ys with
 | nil => obtain rfl := r.inv0; exact .nil
 | cons v l ih =>
  obtain ⟨y, ys, rfl, a, r⟩ := r.inv
  rw [List.reverse_cons, List.reverse_cons]
  exact (ih r).append (.cons a .nil)
theorem Es.assignS {ts : List PySem.Expr} {names : List Str} (h : Ev C n env σ H e H1 (.tup vs)) (hn : names.length = vs.length) (hk : ∀ x ∈ names, Sto env x) (hs : swapsWithSole [.Tuple ts k tpos] e pos.line env = pure false) (hw : swappedStores [.Tuple ts k tpos] e env = pure (some names)) :
  Es C n env σ H (.Assign [.Tuple ts k tpos] e pos) (.next (names.zip vs ++ σ) H1) := by
 intro A w Q E R B F K
 refine Assign_Tuple_swapped (h A w _ E R B F fun w1 y1 S1 B1 F1 r1 => ?_) hs hw
 cases r1 with
 | @tup _ q ys m ho hq rv =>
 have hl : names.length = ys.toArray.size := by rw [List.size_toArray, rv.length, hn]
 rw [hl]
 refine wpAny_unpackItems_tuple (items := ys.toArray) R.hd ⟨_, ho, rfl, _, rfl⟩ fun h' hx => ?_
 have X1 : Ext w1 ⟨w1.ρ, w1.π, { w1.s with heap := h' }⟩ := ⟨rfl, fun b o e => hx b o (Nat.ne_of_lt (Heap.lt_size e)) e, rfl, rfl, rfl, Nat.le_refl _⟩
 have e1 : ((names.zip vs).reverse.map (·.1)) = names.reverse := by rw [List.map_reverse, List.map_fst_zip (by lia)]
 have e2 : ((names.zip vs).reverse.map (·.2)) = vs.reverse := by rw [List.map_reverse, List.map_snd_zip (by lia)]
 rw [← e1]
 refine bindAll (w := ⟨w1.ρ, w1.π, { w1.s with heap := h' }⟩) (names.zip vs).reverse R (B1.ext X1) (F1.ext X1) (fun p m => hk p.1 ?_) (by rw [e2]; simpa using (rv.ext X1).rev) fun w2 S2 B2 F2 => ?_
 ·have := List.mem_map_of_mem (f := (·.1)) m
  rw [e1] at this; exact List.mem_reverse.mp this
 ·refine K w2 _ (F.swide (S1.trans X1.step) S2) (.next B2 (by simpa using F2))
theorem loadV {A : Around} {w : Wd} {Q E : Value → Shared → Prop} (F : FSt C w env σ) (h : σ.lookup x = some v) (hc : (x == ("__classdict__" : Str)) = false) (K : ∀ y, VRel w v y → Q y w.s) : wpAny C.M A (loadName env x) Q E w.s := by
 obtain ⟨m, hn, hm⟩ := F.ns
 obtain ⟨y, hs, hv⟩ := hm x v h
 have q := K y hv
 rcases hs with ⟨a, b⟩ | ⟨a | a, c, e, hcell⟩
 ·exact wpAny_loadName_local F.kind a hn b q
 ·exact wpAny_loadName_cell F.kind a e hcell q
 ·exact wpAny_loadName_free F.kind a e hcell q hc
theorem Es.aug {op : Operator} (h0 : σ.lookup x = some v1) (hc : (x == ("__classdict__" : Str)) = false) (h : Ev C n env σ H e H1 v2) (ho : Aug C n op v1 v2 H1 H2 v) (hk : Sto env x) : Es C n env σ H (.AugAssign (.Name x pos') op e pos) (.next ((x, v) :: σ) H2) := by
 intro A w Q E R B F K
 refine wpAny_AugAssign_Name (loadV F h0 hc fun y ry => h A w _ E R B F fun w1 y1 S1 B1 F1 r1 => ho A w1 _ _ y y1 R B1 (ry.step0 S1) r1 fun w2 y2 S2 B2 r2 => ?_)
 exact store B2 (F1.step0 S2) r2 hk fun w3 S3 B3 F3 => K w3 _ (F.swide (S1.trans S2) S3) (.next B3 F3)
theorem BoV.one {op : BoolOp} (h : Ev C n env σ H e H' v) : BoV C n env σ op [e] H H' v := fun A w Q E q_ R B F K => h A w Q E R B F K
theorem BoV.next {op : BoolOp} {v' : V} (h : Ev C n env σ H e H1 v) (ht : Tru C n v H1 (op == .And)) (h2 : BoV C n env σ op (e2 :: es) H1 H' v') (he : ∀ env : Env, evalEach (e :: e2 :: es) env = eval e env :: evalEach (e2 :: es) env) : BoV C n env σ op (e :: e2 :: es) H H' v' := by
 intro A w Q E pos R B F K
 rw [he]
 show wpAny C.M A (eval _ env >>= fun v => _) Q E w.s
 refine wpAny_bind (h A w _ _ R B F fun w1 y S1 B1 F1 r1 => ?_)
 refine wpAny_bind (wpAny_standAt (wpAny_bind (wpAny_holding (ht A w1 _ _ y R B1 r1 fun w2 S2 B2 => ?_))))
 have q := h2 A w2 Q E pos R B2 (F1.step0 S2) fun w3 y3 S3 B3 F3 r3 => K w3 y3 ((S1.trans S2).trans S3) B3 F3 r3
 cases op <;> exact q
theorem Ev.boolOp {op : BoolOp} (h : BoV C n env σ op es H H' v) : Ev C n env σ H (.BoolOp op es pos) H' v := by
 intro A w Q E R B F K
 rw [arm_eval_BoolOp]
 exact h A w Q E _ R B F K
theorem BoT.nil {op : BoolOp} : BoT C n env σ op [] H H (op == .And) := by
 intro A w Q E R B F K
 have q := K w (Step.refl _ _) B F
 cases op
 ·exact wpAny_allTrue_And_nil q
 ·exact wpAny_allTrue_Or_nil q
theorem BoT.next {op : BoolOp} {b : Bool} (h : Tst C n env σ H e H1 (op == .And)) (h2 : BoT C n env σ op es H1 H' b) : BoT C n env σ op (e :: es) H H' b := by
 intro A w Q E R B F K
 cases op
 ·exact wpAny_allTrue_And_cons (h A w _ _ R B F fun w1 S1 B1 F1 => h2 A w1 _ _ R B1 F1 fun w2 S2 B2 F2 => K w2 (S1.trans S2) B2 F2)
 ·exact wpAny_allTrue_Or_cons (h A w _ _ R B F fun w1 S1 B1 F1 => h2 A w1 _ _ R B1 F1 fun w2 S2 B2 F2 => K w2 (S1.trans S2) B2 F2)
theorem Tst.boolOp {op : BoolOp} {b : Bool} (h : BoT C n env σ op es H H' b) : Tst C n env σ H (.BoolOp op es pos) H' b := by
 intro A w Q E R B F K
 exact wpAny_isTrue_BoolOp (h A w _ _ R B F K)
theorem Ev.cmp2 {op1 op2 : CmpOp} {b1 b2 : Bool} (h1 : Ev C n env σ H e1 H1 v1) (h2 : Ev C n env σ H1 e2 H2 v2) (ho : Cmp C n op1 v1 v2 H2 b1) (h3 : Ev C n env σ H2 e3 H3 v3) (ho2 : Cmp C n op2 v2 v3 H3 b2) (hb : b1 = true)
  (hm : ∀ env : Env, markedEach [op1, op2] [e2, e3] (evalEach [e2, e3] env) = [eval e2 env, eval e3 env]) : Ev C n env σ H (.Compare e1 [op1, op2] [e2, e3] pos) H3 (.bool b2) := by
 intro A w Q E R B F K
 subst hb
 rw [arm_eval_Compare, hm]
 refine wpAny_bind (h1 A w _ _ R B F fun w1 y1 S1 B1 F1 r1 => ?_)
 show wpAny C.M A (holding [y1] (eval e2 env) >>= fun rv => _) Q E w1.s
 refine wpAny_bind (wpAny_holding (h2 A w1 _ _ R B1 F1 fun w2 y2 S2 B2 F2 r2 => ?_))
 refine wpAny_bind (wpAny_standAt (wpAny_bind (wpAny_holding (ho A w2 _ _ y1 y2 R B2 (r1.step0 S2) r2 fun w3 S3 B3 => ?_))))
 refine wpAny_bind (wpAny_release ?_)
 refine wpAny_bind (wpAny_holding (wpAny_truthy_bool ?_))
 show wpAny C.M A (holding [y2] (eval e3 env) >>= fun rv => _) Q E w3.s
 refine wpAny_bind (wpAny_holding (h3 A w3 _ _ R B3 (F2.step0 S3) fun w4 y4 S4 B4 F4 r4 => ?_))
 refine wpAny_bind (wpAny_standAt ?_)
 refine wpAny_operating (ho2 A w4 _ _ y2 y4 R B4 ((r2.step0 S3).step0 S4) r4 fun w5 S5 B5 => ?_)
 exact K w5 _ (((S1.trans S2).trans S3).trans (S4.trans S5)) B5 (F4.step0 S5) (.bool b2)
theorem Ev.meth {name : Str} {apos : Pos} {T id : String} (h : Ev C n env σ H e H1 v1) (ha : EvL C n env σ H1 pos es H2 vs) (hm : Mth C n name v1 vs H2 H3 v T id) (ht : Typ C H1 v1 T)
  (hbase : attributeBase e name env (eval e env) = eval e env)
  (hfew : ((backTo pos (starEach es env)).all (fun x => !x.1) && (backToKw pos (keywordEach [] env)).all (fun x => x.1.isSome) && decide (es.length + ([] : List Keyword).length + (if ([] : List Keyword).isEmpty then 0 else 1) < 30)) = true)
  (hline : (apos.endLine == pos.line) = true) (hp : ((backTo pos (starEach es env)).any (·.1) || ([] : List (Option Str × Sem Value)).any (·.1.isNone)) = false)
  (hs : ∀ (f : Value) (A : Around) (Q : Args → Shared → Prop) (E : Value → Shared → Prop) (s : Shared), wpAny C.M A (spliced (backTo pos (starEach es env))) (fun ys s' => Q ⟨ys, []⟩ s') E s → wpAny C.M A (evalArgs f true (backTo pos (starEach es env)) []) Q E s) :
  Ev C n env σ H (.Call (.Attribute e name apos) es [] pos) H3 v := by
 intro A w Q E R B F K
 refine wpAny_Call_method_lateS hbase hfew hline (h A w _ E R B F fun w1 x S1 B1 F1 r1 => ⟨T, id, hm.pa, hm.slot, hm.ty, (ht w1 x B1 r1).1, (ht w1 x B1 r1).2, ?_⟩)
 refine callWith_of (P := fun q_ => True) (first := [x]) hp (fun q_ q_ => ⟨.machine, .inr (.inl rfl), Looks.of_pure rfl⟩) (hs _ _ _ _ _ (ha A w1 _ E R B1 F1 fun w2 ys S2 B2 F2 r2 => ⟨trivial, ?_⟩))
 have := hm.fn A w2 Q E (.builtin id) (x :: ys) [] R B2 (.val _) (.cons (r1.step0 S2) r2) .nil fun w3 y S3 B3 r => K w3 y (S1.trans (S2.trans S3)) B3 (F2.step0 S3) r
 exact this
end
end
section
section
variable {C : Ct} {n : Nat} {env : Env} {σ σ' σ1 : Loc} {H H' H0 H1 H2 H3 : List HObj} {pos p pos' tpos : Pos} {k : Nat} {x y : Str} {v v1 v2 v3 : V} {e e1 e2 e3 : PySem.Expr} {o : Out} {es : List PySem.Expr} {vs : List V} {a b : Int}
theorem Bin.sub : Bin C n .Sub (.int a) (.int b) H H (.int (a - b)) := by
 intro A w Q E x y R B rx ry K
 obtain ⟨_, rfl⟩ := rx.inv; obtain ⟨_, rfl⟩ := ry.inv
 exact P.sub_int (K ⟨w.ρ, w.π, _⟩ _ Ext.toks.step (B.ext Ext.toks) (.int _ _))
theorem Bin.mul (h : IntMulOk a b) : Bin C n .Mult (.int a) (.int b) H H (.int (a * b)) := by
 intro A w Q E x y R B rx ry K
 obtain ⟨_, rfl⟩ := rx.inv; obtain ⟨_, rfl⟩ := ry.inv
 exact P.mul_int (K ⟨w.ρ, w.π, _⟩ _ Ext.toks.step (B.ext Ext.toks) (.int _ _)) h
theorem Bin.fdiv (hb : b ≠ 0) (h : b.natAbs.log2 < 9000) : Bin C n .FloorDiv (.int a) (.int b) H H (.int (a.fdiv b)) := by
 intro A w Q E x y R B rx ry K
 obtain ⟨_, rfl⟩ := rx.inv; obtain ⟨_, rfl⟩ := ry.inv
 exact floordiv_int hb (K ⟨w.ρ, w.π, _⟩ _ Ext.toks.step (B.ext Ext.toks) (.int _ _)) (.inl (PyProof.noPylong_of_log2 h))
theorem Bin.fmod (hb : b ≠ 0) : Bin C n .Mod (.int a) (.int b) H H (.int (a.fmod b)) := by
 intro A w Q E x y R B rx ry K
 obtain ⟨_, rfl⟩ := rx.inv; obtain ⟨_, rfl⟩ := ry.inv
 exact mod_int' hb (K ⟨w.ρ, w.π, _⟩ _ Ext.toks.step (B.ext Ext.toks) (.int _ _))
theorem Bin.pow (h0 : 0 ≤ b) (h1 : b ≤ 1000000) (ha : a.natAbs < 2 ^ 64) : Bin C n .Pow (.int a) (.int b) H H (.int (a ^ b.toNat)) := by
 intro A w Q E x y R B rx ry K
 obtain ⟨_, rfl⟩ := rx.inv; obtain ⟨_, rfl⟩ := ry.inv
 exact pow_int_small h0 h1 ha (K ⟨w.ρ, w.π, _⟩ _ Ext.toks.step (B.ext Ext.toks) (.int _ _))
theorem Una.neg : Una C n .USub (.int a) H (.int (-a)) := by
 intro A w Q E x R B rx K
 obtain ⟨_, rfl⟩ := rx.inv
 exact P.neg_int (K ⟨w.ρ, w.π, _⟩ _ Ext.toks.step (B.ext Ext.toks) (.int _ _))
theorem Cmp.eqI : Cmp C n .Eq (.int a) (.int b) H (a == b) := by
 intro A w Q E x y R B rx ry K
 obtain ⟨_, rfl⟩ := rx.inv; obtain ⟨_, rfl⟩ := ry.inv
 exact P.eq_int (K w (Step.refl _ _) B)
theorem Cmp.ltI : Cmp C n .Lt (.int a) (.int b) H (decide (a < b)) := by
 intro A w Q E x y R B rx ry K
 obtain ⟨_, rfl⟩ := rx.inv; obtain ⟨_, rfl⟩ := ry.inv
 exact P.lt_int (K w (Step.refl _ _) B)
theorem Cmp.leI : Cmp C n .LtE (.int a) (.int b) H (decide (a ≤ b)) := by
 intro A w Q E x y R B rx ry K
 obtain ⟨_, rfl⟩ := rx.inv; obtain ⟨_, rfl⟩ := ry.inv
 exact P.le_int (K w (Step.refl _ _) B)
theorem Cmp.geI : Cmp C n .GtE (.int a) (.int b) H (decide (a ≥ b)) := by
 intro A w Q E x y R B rx ry K
 obtain ⟨_, rfl⟩ := rx.inv; obtain ⟨_, rfl⟩ := ry.inv
 exact P.ge_int (K w (Step.refl _ _) B)
theorem Tru.int : Tru C n (.int a) H (a != 0) := by
 intro A w Q E y R B rx K
 obtain ⟨_, rfl⟩ := rx.inv
 exact P.truthy_int (K w (Step.refl _ _) B)
theorem Tru.bool {b : Bool} : Tru C n (.bool b) H b := by
 intro A w Q E y R B rx K
 obtain ⟨_, rfl⟩ := rx.inv
 exact wpAny_truthy_bool (K w (Step.refl _ _) B)
theorem Cmp.isNone {v : V} {b : Bool} (h : ∀ (w : Wd) x, VRel w v x → (x == Value.none) = b) : Cmp C n .Is v .none H b := by
 intro A w Q E x y R B rx ry K
 obtain ⟨_, rfl⟩ := ry.inv
 exact is_none (by rw [h w x rx]; exact K w (Step.refl _ _) B)
theorem Cmp.isNotNone {v : V} {b : Bool} (h : ∀ (w : Wd) x, VRel w v x → (!(x == Value.none)) = b) : Cmp C n .IsNot v .none H b := by
 intro A w Q E x y R B rx ry K
 obtain ⟨_, rfl⟩ := ry.inv
 exact isNot_none (by rw [h w x rx]; exact K w (Step.refl _ _) B)
theorem Str.eq_of {x y : Str} (h : x.cps.toList = y.cps.toList) : x = y := by
 cases x; cases y; simpa using Array.toList_inj.mp h
theorem Cmp.eqS : Cmp C n .Eq (.str x) (.str y) H (decide (x = y)) := by
 intro A w Q E x' y' R B rx ry K
 obtain ⟨_, rfl⟩ := rx.inv; obtain ⟨_, rfl⟩ := ry.inv
 have : (x.cps.toList == y.cps.toList) = decide (x = y) := by
  by_cases h : x = y
  ·subst h; simp
  ·have : x.cps.toList ≠ y.cps.toList := fun z => h (Str.eq_of z)
   rw [decide_eq_false h]; exact beq_eq_false_iff_ne.mpr this
 exact P.eq_str (by rw [this]; exact K w (Step.refl _ _) B)
theorem Cmp.neS : Cmp C n .NotEq (.str x) (.str y) H (!decide (x = y)) := by
 intro A w Q E x' y' R B rx ry K
 obtain ⟨_, rfl⟩ := rx.inv; obtain ⟨_, rfl⟩ := ry.inv
 have : (x.cps.toList != y.cps.toList) = !decide (x = y) := by
  by_cases h : x = y
  ·subst h; simp
  ·have : x.cps.toList ≠ y.cps.toList := fun z => h (Str.eq_of z)
   rw [decide_eq_false h, Bool.not_false]; exact bne_iff_ne.mpr this
 exact P.ne_str (by rw [this]; exact K w (Step.refl _ _) B)
theorem Str.app_nil {x y : Str} (h : x.length = 0) : x ++ y = y := by
 have hx : x.cps = #[] := Array.size_eq_zero_iff.mp h
 show (⟨x.cps ++ y.cps⟩ : Str) = y
 rw [hx]; simp
theorem Str.nil_app {x y : Str} (h : y.length = 0) : x ++ y = x := by
 have hx : y.cps = #[] := Array.size_eq_zero_iff.mp h
 show (⟨x.cps ++ y.cps⟩ : Str) = x
 rw [hx]; simp
set_option tactic.hygienic true in
theorem Bin.addS (hsz : x.length + y.length ≤ sizeLine) : Bin C n .Add (.str x) (.str y) H H (.str (x ++ y)) := by
 intro A w Q E x' y' R B rx ry K
 obtain ⟨t, rfl⟩ := rx.inv; obtain ⟨u, rfl⟩ := ry.inv
 refine P.add_str ?_
 split
 ·rename_i h
  have := Str.app_nil (y := y) (by simpa using h)
  exact K w _ (Step.refl _ _) B (by rw [this]; exact .str _ _)
 ·split
  ·rename_i h
   have := Str.nil_app (x := x) (by simpa using h)
   exact K w _ (Step.refl _ _) B (by rw [this]; exact .str _ _)
  ·refine ⟨?_, K ⟨w.ρ, w.π, _⟩ _ Ext.toks.step (B.ext Ext.toks) (.str _ _)⟩
   show (x.cps ++ y.cps).size ≤ sizeLine
   rw [Array.size_append]; exact hsz
end
end
section
noncomputable def EqV (C : Ct) (H : List HObj) (d : Nat) (a b : V) (r : Bool) : Prop :=
 ∀ ⦃w : Wd⦄ ⦃x y : Value⦄, BSt C w H → VRel w a x → VRel w b y → (x = y → r = true) ∧ ∀ {A : Around}, A.units + d < cLine → SeqAt.EqAt A w.s x y r
inductive EqVs (C : Ct) (H : List HObj) (d : Nat) : List V → List V → List Bool → Prop
 | nil : EqVs C H d [] [] []
 | cons {a b : V} {r : Bool} {l l' : List V} {bs : List Bool} : EqV C H d a b r → EqVs C H d l l' bs → EqVs C H d (a :: l) (b :: l') (r :: bs)
section
variable {C : Ct} {n : Nat} {env : Env} {σ σ' σ1 : Loc} {H H' H0 H1 H2 H3 : List HObj} {pos p pos' tpos : Pos} {k : Nat} {x y : Str} {v v1 v2 v3 : V} {e e1 e2 e3 : PySem.Expr} {o : Out} {es : List PySem.Expr} {vs : List V} {a b : Int}
theorem Lsy.isL {w : Wd} {a : V} {l : List V} {x : Value} (B : BSt C w H) (h : Lsy H a l) (r : VRel w a x) : ∃ q vs m, x = .ref q ∧ IsL w.s.heap q vs.toArray m ∧ VRels w l vs := h.at B r
theorem Bin.addL {u v : V} {l l' : List V} (h1 : Lsy H u l) (h2 : Lsy H v l') (hsz : l.length + l'.length ≤ sizeLine) : Bin C n .Add u v H H (.lst (l ++ l')) := by
 intro A w Q E x y R B rx ry K
 obtain ⟨q, vs, m, rfl, e1, r1⟩ := h1.isL B rx
 obtain ⟨q2, vs2, m2, rfl, e2, r2⟩ := h2.isL B ry
 refine P.add_list e1 e2 ?_ (by simp [r1.length, r2.length]; exact hsz)
 have X : Ext w ⟨w.ρ, w.π, { w.s with heap := w.s.heap.push { cls := .type "list", data := .seq (vs.toArray ++ vs2.toArray) } }⟩ := Ext.push _
 refine K ⟨w.ρ, w.π, _⟩ _ X.step (B.ext X) (.lst (vs := vs ++ vs2) (n := 0) ?_ (B.fresh (size_none _)) ((r1.append r2).ext X))
 show (w.s.heap.push _).get? _ = _
 rw [Heap.get?_push_size _ rfl]; simp [lstObj]
theorem listMul_foldl' (xs : Array Value) : ∀ (k : Nat) (acc : Array Value), List.foldl (fun x1 x2 => x1 ++ x2) acc (List.replicate k xs) = acc ++ (List.replicate k xs.toList).flatten.toArray
 | 0, acc => by simp
 | k + 1, acc => by
  rw [List.replicate_succ, List.foldl_cons, listMul_foldl' xs k]
  apply Array.toList_inj.mp; simp [List.replicate_succ]
theorem VRels.rep {w : Wd} {l : List V} {vs : List Value} (r : VRels w l vs) : ∀ k, VRels w (List.replicate k l).flatten (List.replicate k vs).flatten
 | 0 => by simpa using VRels.nil
 | k + 1 => by simpa [List.replicate_succ] using r.append (VRels.rep r k)
theorem Bin.mulL {u : V} {l : List V} (h1 : Lsy H u l) (hne : l ≠ []) (h0 : 0 ≤ b) (hsz : l.length * b.toNat ≤ 2 ^ 24) (hb : b < 2 ^ 62) : Bin C n .Mult u (.int b) H H (.lst (List.replicate b.toNat l).flatten) := by
 intro A w Q E x y R B rx ry K
 obtain ⟨q, vs, m, rfl, e1, r1⟩ := h1.isL B rx
 obtain ⟨t, rfl⟩ := ry.inv
 have hlen : vs.length = l.length := r1.length
 have hsz' : vs.toArray.size * b.toNat ≤ 2 ^ 24 := by rw [List.size_toArray, hlen]; exact hsz
 have hvs : vs ≠ [] := fun z => hne (by rw [z] at hlen; simpa using hlen.symm)
 refine wpAny_binaryOp_repeat_ref (T := "list") (U := "int") (by decide) ⟨_, e1, rfl⟩ (fun s' => typeIs_int s' b t) noFill_list_mul F.fills_int_mul F.slot_int_rmul repeat_list F.slot_int_index.lookup
  (call_meets F.slot_int_rmul (typeIs_int w.s b t) F.entry_int_rmul (F.args_int_rmul_2 _ _) (int___rmul___int_list b t q vs.toArray m)
   ⟨e1, rfl, ⟨_, e1, rfl⟩, call_meets F.slot_list_mul ⟨_, e1, rfl⟩ F.entry_list_mul (F.args_list_mul_2 _ _)
    (AutoListH.list___mul___list_int_3 q vs.toArray m b t (by simp [Builtin.List.listFitsIndex]; lia) (by lia) (by simp [Builtin.List.listTooLong, sizeLine]; omega))
    ⟨e1, ?_⟩⟩)
 have X : Ext w ⟨w.ρ, w.π, { w.s with heap := w.s.heap.push { cls := .type "list", data := .seq (List.foldl (fun x1 x2 => x1 ++ x2) #[] (List.replicate (if vs.toArray.isEmpty = true then 0 else b.toNat) vs.toArray)) } }⟩ := Ext.push _
 refine K ⟨w.ρ, w.π, _⟩ _ X.step (B.ext X) (.lst (vs := (List.replicate b.toNat vs).flatten) (n := 0) ?_ (B.fresh (size_none _)) ((r1.rep _).ext X))
 show (w.s.heap.push _).get? _ = _
 rw [Heap.get?_push_size _ rfl, listMul_foldl']
 simp [lstObj, hvs]
theorem eqAt_fi {A : Around} {s : Shared} {a : UInt64} {b : Int} {t u : Tok} : SeqAt.EqAt A s (.float a t) (.int b u) (Float64.cmpInt a b == some .eq) := fun prog w E Q hq => by
 unfold eqBool
 refine wpAny_holding ?_
 refine wpAny_ite_split (fun z => by cases z) (fun q_ => ?_)
 exact wpAny_bind (eq_fi (wpAny_truthy_bool hq))
set_option tactic.hygienic true in
theorem eqAt_flt {A : Around} {w : Wd} (B : BSt C w H) {x : UInt64} {t u : Tok} (ht : t ≠ 0) (hu : u ≠ 0) (hn : Float64.isNaN x = false) (hc : Float64.cmp x x = some .eq) : SeqAt.EqAt A w.s (.float x t) (.float x u) true := fun prog wo E Q hq => by
 have hb : NoneBooked w.s.heap := by
  obtain ⟨mc, h1, h2⟩ := C.nb
  exact ⟨mc, h1.keeps B.stays, h2⟩
 unfold eqBool
 refine wpAny_holding ?_
 refine wpAny_ite_split (fun q_ => wpAny_bind (wpAny_rule (wpAny_pure hq))) (fun q_ => ?_)
 have tail : wpAny (model prog wo) A (do truthOfDropped (← richCompare .Eq (.float x t) (.float x u))) Q E w.s := by
  have q : wpAny (model prog wo) A (compareOp .Eq (.float x t) (.float x u)) (fun v s' => wpAny (model prog wo) A (truthOfDropped v) Q E s') E w.s := AutoFloatOps.eq_0 (by rw [show Float64.cmp x x = some .eq from hc]; exact wpAny_truthy_bool hq)
  exact wpAny_bind q
 have same : wpAny (model prog wo) A (isSame (.float x t) (.float x u)) (fun b s' => s' = w.s) E w.s := by
  show wpAny _ A (isSame.created (x == x && !Float64.isNaN x) t u) _ E w.s
  unfold isSame.created
  refine wpAny_ite ?_
  split
  ·rename_i h; simp [ht, hu] at h
  refine wpAny_ite ?_
  split
  ·exact wpAny_pure rfl
  refine wpAny_ite ?_
  split
  ·exact wpAny_pure rfl
  refine wpAny_bind (wpAny_sharingNotTold_none hb ?_)
  simp only [Bool.false_eq_true, if_false]
  refine wpAny_bind (wpAny_sharingNotTold_none hb ?_)
  simp only [Bool.false_eq_true, if_false]
  exact wpAny_bind (wpAny_rule (wpAny_bind (wpAny_askSetting (wpAny_pure rfl))))
 refine wpAny_bind (wpAny_mono same (fun b s' e => ?_) fun q_ q_ e => e)
 subst e
 cases b
 ·exact tail
 ·exact wpAny_pure hq
theorem EqVs.lengths {d : Nat} {l l' : List V} {bs : List Bool} (h : EqVs C H d l l' bs) : l.length = l'.length ∧ bs.length = l.length := by
 induction h with
 | nil => exact ⟨rfl, rfl⟩
 | cons _ _ ih => simp [ih.1, ih.2]
theorem all_range {bs : List Bool} {m : Nat} (h : bs.length = m) : (List.range m).all (fun j => bs.getD j false) = bs.all id := by
 subst h
 rw [Bool.eq_iff_iff, List.all_eq_true, List.all_eq_true]
 constructor
 ·intro h b hb
  obtain ⟨i, hi, rfl⟩ := List.mem_iff_getElem.mp hb
  have := h i (List.mem_range.mpr hi)
  simpa [List.getD, hi] using this
 ·intro h i hi
  have hi' := List.mem_range.mp hi
  simpa [List.getD, hi'] using h _ (List.getElem_mem hi')
theorem EqVs.at {d : Nat} {l l' : List V} {bs : List Bool} (h : EqVs C H d l l' bs) {w : Wd} (B : BSt C w H) : ∀ {xs ys : List Value}, VRels w l xs → VRels w l' ys → (xs = ys → bs.all id = true) ∧ ∀ {A : Around}, A.units + d < cLine → ∀ j (h1 : j < xs.length) (h2 : j < ys.length), SeqAt.EqAt A w.s xs[j] ys[j] (bs.getD j false) := by
 induction h with
 | nil =>
  intro xs ys r r'
  obtain rfl := r.inv
  exact ⟨fun q_ => rfl, fun q_ j h1 => absurd h1 (Nat.not_lt_zero j)⟩
 | cons e _ ih =>
  intro xs ys r r'
  obtain ⟨x, xs, rfl, r1, r2⟩ := r.inv
  obtain ⟨y, ys, rfl, q1, q2⟩ := r'.inv
  have h1 := e B r1 q1
  have h2 := ih r2 q2
  refine ⟨fun z => ?_, fun hu j => ?_⟩
  ·injection z with z1 z2
   rw [List.all_cons, h1.1 z1, h2.1 z2]; rfl
  ·cases j with
   | zero => exact fun q_ q_ => h1.2 hu
   | succ j => exact fun k1 k2 => h2.2 hu j (Nat.lt_of_succ_lt_succ k1) (Nat.lt_of_succ_lt_succ k2)
theorem EqV.int {d : Nat} (a b : Int) : EqV C H d (.int a) (.int b) (a == b) := by
 intro w x y _ rx ry
 obtain ⟨t, rfl⟩ := rx.inv
 obtain ⟨u, rfl⟩ := ry.inv
 exact ⟨fun z => by injection z with z; simp [z], fun q_ => SeqAt.EqAt.int_int a t b u⟩
theorem EqV.str {d : Nat} (a b : Str) : EqV C H d (.str a) (.str b) (decide (a = b)) := by
 intro w x y _ rx ry
 obtain ⟨t, rfl⟩ := rx.inv
 obtain ⟨u, rfl⟩ := ry.inv
 exact ⟨fun z => by injection z with z; simp [z], fun q_ => SeqAt.EqAt.str_str a t b u⟩
theorem EqV.fltInt {d : Nat} (a : UInt64) (b : Int) : EqV C H d (.flt a) (.int b) (Float64.cmpInt a b == some .eq) := by
 intro w x y _ rx ry
 obtain ⟨t, rfl, _⟩ := rx.inv
 obtain ⟨u, rfl⟩ := ry.inv
 exact ⟨(nomatch ·), fun q_ => eqAt_fi⟩
theorem EqV.flt {d : Nat} (a : UInt64) (hn : Float64.isNaN a = false) (hc : Float64.cmp a a = some .eq) : EqV C H d (.flt a) (.flt a) true := by
 intro w x y B rx ry
 obtain ⟨t, rfl, ht⟩ := rx.inv
 obtain ⟨u, rfl, hu⟩ := ry.inv
 exact ⟨fun q_ => rfl, fun q_ => eqAt_flt B ht hu hn hc⟩
theorem tups_at {d : Nat} {l l' : List V} {bs : List Bool} (h : EqVs C H d l l' bs) {w : Wd} (B : BSt C w H) {A : Around} {q1 q2 : Addr} {xs ys : List Value} {m1 m2 : Nat} (e1 : w.h.get? q1 = some (tupObj xs m1)) (e2 : w.h.get? q2 = some (tupObj ys m2)) (r1 : VRels w l xs) (r2 : VRels w l' ys) (hu : A.units + 1 + d < cLine) : SeqAt.RcAt A w.s (.ref q1) (.ref q2) (bs.all id) := by
 have hl1 := r1.length; have hl2 := r2.length
 obtain ⟨hl, hb⟩ := h.lengths
 have := SeqAt.RcAt.tuples (A := A) (s := w.s) (items := xs.toArray) (items2 := ys.toArray) (e := fun j => bs.getD j false) ⟨_, e1, rfl, _, rfl⟩ ⟨_, e2, rfl, _, rfl⟩ (by lia) fun j h1 h2 => by
  simpa using (h.at B r1 r2).2 (A := A.in1) hu j (by simpa using h1) (by simpa using h2)
 rwa [show (List.range (min xs.toArray.size ys.toArray.size)).all (fun j => bs.getD j false) = bs.all id from all_range (by simp; lia), show (xs.toArray.size == ys.toArray.size) = true by simp; lia, Bool.and_true] at this
theorem EqV.tup {d : Nat} {l l' : List V} {bs : List Bool} (h : EqVs C H d l l' bs) : EqV C H (d + 1) (.tup l) (.tup l') (bs.all id) := by
 intro w x y B rx ry
 obtain ⟨q1, xs, m1, rfl, e1, _, r1⟩ := rx.inv
 obtain ⟨q2, ys, m2, rfl, e2, _, r2⟩ := ry.inv
 have hs : Value.ref q1 = .ref q2 → bs.all id = true := fun z => by
  injection z with z
  subst z
  rw [e1] at e2
  have e3 := congrArg (fun o => o.map Obj.data) e2
  simp only [Option.map_some, tupObj, Option.some.injEq, Data.seq.injEq] at e3
  exact (h.at B r1 r2).1 (by simpa using e3.1)
 refine ⟨hs, fun hu => ?_⟩
 by_cases hq : q1 = q2
 ·rw [hs (by rw [hq]), hq]; exact SeqAt.EqAt.same _
 ·exact SeqAt.EqAt.of_refs hq (tups_at h B e1 e2 r1 r2 (by lia))
theorem Cmp.eqL {d : Nat} {u v : V} {l l' : List V} {bs : List Bool} (h1 : Lsy H u l) (h2 : Lsy H v l') (h : EqVs C H d l l' bs) (hd : d ≤ 100) : Cmp C n .Eq u v H (bs.all id) := by
 intro A w Q E x y R B rx ry K
 obtain ⟨q1, xs, m1, rfl, e1, r1⟩ := h1.isL B rx
 obtain ⟨q2, ys, m2, rfl, e2, r2⟩ := h2.isL B ry
 have hl1 := r1.length; have hl2 := r2.length
 obtain ⟨hl, hb⟩ := h.lengths
 have hu := R.units
 have := SeqAt.RcAt.lists (A := A) (s := w.s) (items := xs.toArray) (items2 := ys.toArray) (e := fun j => bs.getD j false) ⟨_, e1, rfl, _, rfl⟩ ⟨_, e2, rfl, _, rfl⟩ (by simp; lia) R.room fun j h1 h2 => by
  simpa using (h.at B r1 r2).2 (A := A.in1) (by show A.units + 1 + d < 9900; lia) j (by simpa using h1) (by simpa using h2)
 rw [show (List.range xs.toArray.size).all (fun j => bs.getD j false) = bs.all id from all_range (by simp; lia)] at this
 exact this C.prog C.w E Q (K w (Step.refl _ _) B)
theorem Cmp.eqLlen {u v : V} {l l' : List V} (h1 : Lsy H u l) (h2 : Lsy H v l') (h : l.length ≠ l'.length) : Cmp C n .Eq u v H false := by
 intro A w Q E x y R B rx ry K
 obtain ⟨q1, xs, m1, rfl, e1, r1⟩ := h1.isL B rx
 obtain ⟨q2, ys, m2, rfl, e2, r2⟩ := h2.isL B ry
 have hl1 := r1.length; have hl2 := r2.length
 exact SeqAt.RcAt.lists_lengths (A := A) (s := w.s) (items := xs.toArray) (items2 := ys.toArray) ⟨_, e1, rfl, _, rfl⟩ ⟨_, e2, rfl, _, rfl⟩ (by simp; lia) R.room C.prog C.w E Q (K w (Step.refl _ _) B)
theorem Cmp.eqT {d : Nat} {l l' : List V} {bs : List Bool} (h : EqVs C H d l l' bs) (hd : d ≤ 100) : Cmp C n .Eq (.tup l) (.tup l') H (bs.all id) := by
 intro A w Q E x y R B rx ry K
 obtain ⟨q1, xs, m1, rfl, e1, _, r1⟩ := rx.inv
 obtain ⟨q2, ys, m2, rfl, e2, _, r2⟩ := ry.inv
 have hu := R.units
 exact tups_at h B e1 e2 r1 r2 (by show A.units + 1 + d < 9900; lia) C.prog C.w E Q (K w (Step.refl _ _) B)
theorem EqVs.by {α : Type} [DecidableEq α] {f : α → V} {d : Nat} (hf : ∀ x y, EqV C H d (f x) (f y) (decide (x = y))) {xs ys : List α} (h : xs.length = ys.length) : ∃ bs, EqVs C H d (xs.map f) (ys.map f) bs ∧ bs.all id = decide (xs = ys) := by
 induction xs generalizing ys with
 | nil => cases ys with
  | nil => exact ⟨[], .nil, rfl⟩
  | cons y ys => cases h
 | cons x xs ih => cases ys with
  | nil => cases h
  | cons y ys =>
   obtain ⟨bs, h1, h2⟩ := ih (Nat.succ.inj h)
   exact ⟨_, .cons (hf x y) h1, by rw [List.all_cons, h2]; exact Bool.eq_iff_iff.mpr (by simp)⟩
theorem EqVs.ints {xs ys : List Int} (h : xs.length = ys.length) : ∃ bs, EqVs C H 0 (xs.map V.int) (ys.map V.int) bs ∧ bs.all id = decide (xs = ys) := EqVs.by EqV.int h
theorem EqVs.strs {xs ys : List Str} (h : xs.length = ys.length) : ∃ bs, EqVs C H 0 (xs.map V.str) (ys.map V.str) bs ∧ bs.all id = decide (xs = ys) := EqVs.by EqV.str h
theorem EqVs.pairs {xs ys : List (Str × Str)} (h : xs.length = ys.length) : ∃ bs, EqVs C H 1 (xs.map fun p => V.tup [.str p.1, .str p.2]) (ys.map fun p => V.tup [.str p.1, .str p.2]) bs ∧ bs.all id = decide (xs = ys) :=
 EqVs.by (fun p q => by
  have e : [decide (p.1 = q.1), decide (p.2 = q.2)].all id = decide (p = q) := Bool.eq_iff_iff.mpr (by simp [Prod.ext_iff])
  exact e ▸ EqV.tup (.cons (EqV.str p.1 q.1) (.cons (EqV.str p.2 q.2) .nil))) h
theorem Cmp.eqInts {u v : V} {xs ys : List Int} (h1 : Lsy H u (xs.map .int)) (h2 : Lsy H v (ys.map .int)) : Cmp C n .Eq u v H (decide (xs = ys)) := by
 by_cases h : xs.length = ys.length
 ·obtain ⟨bs, e1, e2⟩ := EqVs.ints h
  rw [← e2]; exact Cmp.eqL h1 h2 e1 (by decide)
 ·rw [decide_eq_false (fun z => h (by rw [z]))]
  exact Cmp.eqLlen h1 h2 (by simpa using h)
theorem Cmp.eqStrs {u v : V} {xs ys : List Str} (h1 : Lsy H u (xs.map .str)) (h2 : Lsy H v (ys.map .str)) : Cmp C n .Eq u v H (decide (xs = ys)) := by
 by_cases h : xs.length = ys.length
 ·obtain ⟨bs, e1, e2⟩ := EqVs.strs h
  rw [← e2]; exact Cmp.eqL h1 h2 e1 (by decide)
 ·rw [decide_eq_false (fun z => h (by rw [z]))]
  exact Cmp.eqLlen h1 h2 (by simpa using h)
end
end
section
section
variable {C : Ct} {n : Nat} {env : Env} {σ σ' σ1 : Loc} {H H' H0 H1 H2 H3 : List HObj} {pos p pos' tpos : Pos} {k : Nat} {x y : Str} {v v1 v2 v3 : V} {e e1 e2 e3 : PySem.Expr} {o : Out} {es : List PySem.Expr} {vs : List V} {a b : Int}
theorem Cmp.neL {d : Nat} {u v : V} {l l' : List V} {bs : List Bool} (h1 : Lsy H u l) (h2 : Lsy H v l') (h : EqVs C H d l l' bs) (hd : d ≤ 100) : Cmp C n .NotEq u v H (!bs.all id) := by
 intro A w Q E x y R B rx ry K
 obtain ⟨q1, xs, m1, rfl, e1, r1⟩ := h1.isL B rx
 obtain ⟨q2, ys, m2, rfl, e2, r2⟩ := h2.isL B ry
 have hl1 := r1.length; have hl2 := r2.length
 obtain ⟨hl, hb⟩ := h.lengths
 have hu := R.units
 have := SeqAt.RcNeAt.lists (A := A) (s := w.s) (items := xs.toArray) (items2 := ys.toArray) (e := fun j => bs.getD j false) ⟨_, e1, rfl, _, rfl⟩ ⟨_, e2, rfl, _, rfl⟩ (by simp; lia) R.room fun j h1 h2 => by
  simpa using (h.at B r1 r2).2 (A := A.in1) (by show A.units + 1 + d < 9900; lia) j (by simpa using h1) (by simpa using h2)
 rw [show (List.range xs.toArray.size).all (fun j => bs.getD j false) = bs.all id from all_range (by simp; lia)] at this
 exact this C.prog C.w E Q (K w (Step.refl _ _) B)
theorem Cmp.neLlen {u v : V} {l l' : List V} (h1 : Lsy H u l) (h2 : Lsy H v l') (h : l.length ≠ l'.length) : Cmp C n .NotEq u v H true := by
 intro A w Q E x y R B rx ry K
 obtain ⟨q1, xs, m1, rfl, e1, r1⟩ := h1.isL B rx
 obtain ⟨q2, ys, m2, rfl, e2, r2⟩ := h2.isL B ry
 have hl1 := r1.length; have hl2 := r2.length
 exact SeqAt.RcNeAt.lists_lengths (A := A) (s := w.s) (items := xs.toArray) (items2 := ys.toArray) ⟨_, e1, rfl, _, rfl⟩ ⟨_, e2, rfl, _, rfl⟩ (by simp; lia) R.room C.prog C.w E Q (K w (Step.refl _ _) B)
theorem Cmp.neInts {u v : V} {xs ys : List Int} (h1 : Lsy H u (xs.map .int)) (h2 : Lsy H v (ys.map .int)) : Cmp C n .NotEq u v H (!decide (xs = ys)) := by
 by_cases h : xs.length = ys.length
 ·obtain ⟨bs, e1, e2⟩ := EqVs.ints h
  rw [← e2]; exact Cmp.neL h1 h2 e1 (by decide)
 ·rw [decide_eq_false (fun z => h (by rw [z]))]
  exact Cmp.neLlen h1 h2 (by simpa using h)
theorem Cmp.neStrs {u v : V} {xs ys : List Str} (h1 : Lsy H u (xs.map .str)) (h2 : Lsy H v (ys.map .str)) : Cmp C n .NotEq u v H (!decide (xs = ys)) := by
 by_cases h : xs.length = ys.length
 ·obtain ⟨bs, e1, e2⟩ := EqVs.strs h
  rw [← e2]; exact Cmp.neL h1 h2 e1 (by decide)
 ·rw [decide_eq_false (fun z => h (by rw [z]))]
  exact Cmp.neLlen h1 h2 (by simpa using h)
theorem Cmp.nePairs {u v : V} {xs ys : List (Str × Str)} (h1 : Lsy H u (xs.map fun p => V.tup [.str p.1, .str p.2])) (h2 : Lsy H v (ys.map fun p => V.tup [.str p.1, .str p.2])) : Cmp C n .NotEq u v H (!decide (xs = ys)) := by
 by_cases h : xs.length = ys.length
 ·obtain ⟨bs, e1, e2⟩ := EqVs.pairs h
  rw [← e2]; exact Cmp.neL h1 h2 e1 (by decide)
 ·rw [decide_eq_false (fun z => h (by rw [z]))]
  exact Cmp.neLlen h1 h2 (by simpa using h)
theorem isList_ofL {w : Wd} {q : Addr} {vs : List Value} {m : Nat} (e : IsL w.s.heap q vs.toArray m) : w.s.heap.IsList q vs.toArray := ⟨_, e, rfl, m, rfl⟩
theorem Fn.len {u : V} {l : List V} (h : Lsy H u l) (hl : l.length < 2 ^ 40) : Fn C n (.val (.builtin "len")) [u] [] H H (.int l.length) := by
 intro A w Q E g xs ks R B rg rx rk K
 obtain ⟨_, rfl⟩ := rg.inv
 obtain ⟨x, rfl, r1⟩ := rx.inv1
 cases rk.inv0
 obtain ⟨q, vs, m, rfl, e1, r⟩ := h.isL B r1
 have hlen := r.length
 refine call_len_list (isList_ofL e1) (by simp; lia) ?_
 have := K ⟨w.ρ, w.π, { w.s with toks := w.s.toks + 1 + 1 }⟩ (.int vs.toArray.size (w.s.toks + 1)) (Ext.toksT (t := w.s.toks + 1 + 1) (by lia)).step (B.ext (Ext.toksT (t := w.s.toks + 1 + 1) (by lia))) (by rw [List.size_toArray, hlen]; exact .int _ _)
 exact this
theorem Fn.strI (h : a.natAbs.log2 < 1920) : Fn C n (.val (.type "str")) [.int a] [] H H (.str (toString a)) := by
 intro A w Q E g xs ks R B rg rx rk K
 obtain ⟨_, rfl⟩ := rg.inv
 obtain ⟨z, rfl, r1⟩ := rx.inv1
 cases rk.inv0
 obtain ⟨_, rfl⟩ := r1.inv
 exact P.str_of_int h (K ⟨w.ρ, w.π, _⟩ _ Ext.toks.step (B.ext Ext.toks) (.str _ _))
theorem Fn.intF {x : UInt64} {sg : Bool} {m : Nat} {e : Int} (h : Float64.decode x = .fin sg m e) : Fn C n (.val (.type "int")) [.flt x] [] H H (.int (Float64.truncOf sg m e)) := by
 intro A w Q E g xs ks R B rg rx rk K
 obtain ⟨_, rfl⟩ := rg.inv
 obtain ⟨z, rfl, r1⟩ := rx.inv1
 cases rk.inv0
 obtain ⟨_, rfl, _⟩ := r1.inv
 exact call_int_float h (K ⟨w.ρ, w.π, _⟩ _ Ext.toks.step (B.ext Ext.toks) (.int _ _))
theorem Fn.lower (h : x.length ≤ 100000) : Fn C n (.val (.builtin "str.lower")) [.str x] [] H H (.str (Txt.lower x)) := by
 intro A w Q E g xs ks R B rg rx rk K
 obtain ⟨_, rfl⟩ := rg.inv
 obtain ⟨z, rfl, r1⟩ := rx.inv1
 cases rk.inv0
 obtain ⟨_, rfl⟩ := r1.inv
 exact SCL.lower (by lia) fun q_ => K ⟨w.ρ, w.π, _⟩ _ Ext.toks.step (B.ext Ext.toks) (.str _ _)
theorem Fn.upper (h : x.length ≤ 100000) : Fn C n (.val (.builtin "str.upper")) [.str x] [] H H (.str (Txt.upper x)) := by
 intro A w Q E g xs ks R B rg rx rk K
 obtain ⟨_, rfl⟩ := rg.inv
 obtain ⟨z, rfl, r1⟩ := rx.inv1
 cases rk.inv0
 obtain ⟨_, rfl⟩ := r1.inv
 exact SCL.upper (by lia) fun q_ => K ⟨w.ρ, w.π, _⟩ _ Ext.toks.step (B.ext Ext.toks) (.str _ _)
theorem Fn.swapcase (h : x.length ≤ 100000) : Fn C n (.val (.builtin "str.swapcase")) [.str x] [] H H (.str (Txt.swapcase x)) := by
 intro A w Q E g xs ks R B rg rx rk K
 obtain ⟨_, rfl⟩ := rg.inv
 obtain ⟨z, rfl, r1⟩ := rx.inv1
 cases rk.inv0
 obtain ⟨_, rfl⟩ := r1.inv
 exact SCL.swapcase (by lia) fun q_ => K ⟨w.ρ, w.π, _⟩ _ Ext.toks.step (B.ext Ext.toks) (.str _ _)
theorem turnL {w : Wd} {i : Nat} {l' : List V} {vs' : List Value} {D : Addr} {m' : Nat} {h' : Heap} (B : BSt C w H) (hD : w.ρ[i]? = some D) (hs : Heap.SameBut D w.s.heap h') (hn : h'.get? D = some (lstObj vs' m')) (hr : VRels w l' vs') (hd : datL l' = true) :
  BSt C ⟨w.ρ, w.π, { w.s with heap := h' }⟩ (H.set i (.list l')) ∧ Step [] w ⟨w.ρ, w.π, { w.s with heap := h' }⟩ :=
 B.set (s' := { w.s with heap := h' }) (o := .list l') hD hs rfl rfl (Nat.le_refl _) ⟨_, hn⟩ (fun S => .list hn (hr.step0 S) hd) (fun q_ e => by cases e)
theorem Fn.append {i : Nat} {l : List V} (hH : H[i]? = some (.list l)) (hd : v.dat = true) (hlen : l.length ≤ sizeLine) : Fn C n (.val (.builtin "list.append")) [.ref i, v] [] H (H.set i (.list (l ++ [v]))) .none := by
 intro A w Q E g xs ks R B rg rx rk K
 obtain ⟨_, rfl⟩ := rg.inv
 obtain ⟨x1, x2, rfl, r1, r2⟩ := rx.inv2
 cases rk.inv0
 obtain ⟨_, rfl, hD⟩ := r1.inv
 exact appendAt B hD hH r2 hd hlen fun w' S q_ B' => K w' _ S B' .none
theorem datL_take {l : List V} (h : datL l = true) (n : Nat) : datL (l.take n) = true := datL_iff.mpr fun v m => datL_iff.mp h v (List.mem_of_mem_take m)
theorem datL_drop {l : List V} (h : datL l = true) (n : Nat) : datL (l.drop n) = true := datL_iff.mpr fun v m => datL_iff.mp h v (List.mem_of_mem_drop m)
theorem Fn.insert {i j : Nat} {l : List V} (hH : H[i]? = some (.list l)) (hd : v.dat = true) (hj : j ≤ l.length) (hlen : l.length ≤ sizeLine) :
  Fn C n (.val (.builtin "list.insert")) [.ref i, .int j, v] [] H (H.set i (.list (l.take j ++ v :: l.drop j))) .none := by
 intro A w Q E g xs ks R B rg rx rk K
 obtain ⟨_, rfl⟩ := rg.inv
 obtain ⟨x1, x2, x3, rfl, r1, r2, r3⟩ := rx.inv3
 cases rk.inv0
 cases r1 with | @ref _ D hD =>
 generalize hji : (j : Int) = ji at r2
 obtain ⟨t, rfl⟩ := r2.inv
 obtain ⟨a, vs, m, h1, h2, h3, d⟩ := B.get hH
 obtain rfl := Option.some.inj (hD.symm.trans h1)
 have hlen' := h3.length
 have hfit : ¬(!Builtin.List.listFitsIndex ji) = true := by
  have h64 : l.length ≤ 2 ^ 24 := hlen
  simp [Builtin.List.listFitsIndex]; lia
 have hz : vs.toArray.size ≤ sizeLine := by
  have e : vs.toArray.size = l.length := by rw [List.size_toArray]; exact hlen'
  lia
 have g := AutoSeq1.list_insert_list_int_val_1 D vs.toArray m ji t x3 hfit hz
 refine call_meets F.slot_list_insert ⟨_, h2, rfl⟩ F.entry_list_insert (F.args_list_insert_3 _ _ _) g ⟨h2, ?_⟩
 have hs : Heap.SameBut D w.s.heap (w.s.heap.update D (Obj.mapSeq fun xs => have k := if ji < 0 then (ji + ((xs.size : Nat) : Int)).toNat else min ji.toNat xs.size; (xs.extract 0 k).push x3 ++ xs.extract k)) := Heap.SameBut.update ..
 have hn := IsL.update (h := w.s.heap) (l := D) (items := vs.toArray) (n := m) h2 (fun xs => have k := if ji < 0 then (ji + ((xs.size : Nat) : Int)).toNat else min ji.toNat xs.size; (xs.extract 0 k).push x3 ++ xs.extract k)
 have hval : (have k := if ji < 0 then (ji + ((vs.toArray.size : Nat) : Int)).toNat else min ji.toNat vs.toArray.size; (vs.toArray.extract 0 k).push x3 ++ vs.toArray.extract k) = (vs.take j ++ x3 :: vs.drop j).toArray := by
  have hk : min j vs.length = j := by lia
  have hneg : ¬ ji < 0 := by lia
  have htn : ji.toNat = j := by lia
  simp only [hneg, if_false, htn, List.size_toArray, hk]
  apply Array.toList_inj.mp
  simp
  exact List.take_of_length_le (by simp)
 rw [hval] at hn
 obtain ⟨B', S⟩ := turnL (l' := l.take j ++ v :: l.drop j) B hD hs hn ((h3.take j).append (.cons r3 (h3.drop j))) (by rw [datL_append, datL_take d]; simp [datL, hd, datL_drop d])
 exact K _ _ S B' .none
theorem isSeq_iadd : seqSlot? (.type "list") (dunderI "add") = pure (some (.builtin "list.__iadd__")) := PySem.seqSlot_of F.slot_list_iadd.lookup (by decide +kernel)
theorem inplace_seq {prog : Program} {wo : World} {A : Around} {E Q : Value → Shared → Prop} {s : Shared} {x y : Value} (hx : s.TypeIs x "list") (hy : s.TypeIs y "list") (hc : wpAny (model prog wo) A (call (.builtin "list.__iadd__") [x, y]) Q E s) : wpAny (model prog wo) A (inplaceOp .Add x y) Q E s := by
 unfold inplaceOp
 refine wpAny_holding ?_
 have hfi : fillsInplaceSlot (.type "list") "add" (Operator.Add == .Add) = pure false := by
  unfold fillsInplaceSlot
  show (typeLookup (.type "list") (dunderI "add") >>= fun fi => pure (fi.isSome && !isSeqSlot fi)) = pure false
  rw [F.slot_list_iadd.lookup]
  have : isSeqSlot (some (.builtin "list.__iadd__")) = true := by decide +kernel
  simp [this]
 refine wpAny_bind (wpAny_typeOf hx (wpAny_bind (wpAny_of_eq hfi ?_)))
 show wpAny _ A (if false = true then _ else _) Q E s
 rw [if_neg Bool.false_ne_true]
 refine wpAny_bind (wpAny_binaryOp1_none (nm := "add") hx hy noFill_list_add ?_)
 refine wpAny_bind (wpAny_of_eq isSeq_iadd ?_)
 exact wpAny_bind (wpAny_rule hc)
theorem Aug.addL {i : Nat} {l l' : List V} {u : V} (hH : H[i]? = some (.list l)) (h2 : Lsy H u l') (hd : datL l' = true) (hsz : l.length + l'.length ≤ sizeLine) : Aug C n .Add (.ref i) u H (H.set i (.list (l ++ l'))) (.ref i) := by
 intro A w Q E x y R B rx ry K
 cases rx with | @ref _ D hD =>
 obtain ⟨a, vs, m, h1, e1, r1, d⟩ := B.get hH
 obtain rfl := Option.some.inj (hD.symm.trans h1)
 obtain ⟨q2, vs2, m2, rfl, e2, r2⟩ := h2.isL B ry
 have hl1 := r1.length; have hl2 := r2.length
 have h64 : l.length + l'.length ≤ 2 ^ 24 := hsz
 have hz : vs.toArray.size + vs2.toArray.size ≤ sizeLine := by
  rw [show vs.toArray.size + vs2.toArray.size = l.length + l'.length by simp [hl1, hl2]]; exact hsz
 have hlong : ¬(!vs.toArray.isEmpty && Builtin.List.listTooLong (vs.toArray.size + vs2.toArray.size)) = true := by
  simp [Builtin.List.listTooLong, hl1, hl2]; intros; omega
 refine inplace_seq ⟨_, e1, rfl⟩ ⟨_, e2, rfl⟩ ?_
 have g := AutoSeq1.list___iadd___list_list_0 D vs.toArray m q2 vs2.toArray m2 hlong (by lia) (by lia)
 refine call_meets F.slot_list_iadd ⟨_, e1, rfl⟩ F.entry_list_iadd (F.args_list_iadd_2 _ _) g ⟨e1, e2, ?_⟩
 have hs : Heap.SameBut D w.s.heap (w.s.heap.update D (Obj.mapSeq fun x => x ++ vs2.toArray)) := Heap.SameBut.update ..
 have hn := IsL.update (h := w.s.heap) (l := D) (items := vs.toArray) (n := m) e1 (fun x => x ++ vs2.toArray)
 have hval : vs.toArray ++ vs2.toArray = (vs ++ vs2).toArray := by simp
 rw [hval] at hn
 obtain ⟨B', S⟩ := turnL (l' := l ++ l') B hD hs hn (r1.append r2) (by rw [datL_append, d, hd]; rfl)
 exact K _ _ S B' (.ref hD)
end
end
section
section
variable {C : Ct} {n : Nat} {env : Env} {σ σ' σ1 : Loc} {H H' H0 H1 H2 H3 : List HObj} {pos p pos' tpos : Pos} {k : Nat} {x y : Str} {v v1 v2 v3 : V} {e e1 e2 e3 : PySem.Expr} {o : Out} {es : List PySem.Expr} {vs : List V} {a b : Int}
theorem walkL {A : Around} {w : Wd} {q : Addr} {vs : List Value} {m : Nat} {Q E : Value → Shared → Prop} (hh : A.handled = none) (e : IsL w.s.heap q vs.toArray m)
  (K : ∀ I fp P St, Walks C.prog C.w A I fp [I] vs.length P St → St 0 (w.s.heap.push { cls := .type "list_iterator", data := .fields #[.ref q, .int 0 0] }) → (∀ b ∈ fp, b < (w.s.heap.push { cls := .type "list_iterator", data := .fields #[.ref q, .int 0 0] }).objs.size) → w.s.heap.get? I = none → (∀ i v, P i v ↔ vs[i]? = some v) →
   Q (.ref I) { w.s with heap := w.s.heap.push { cls := .type "list_iterator", data := .fields #[.ref q, .int 0 0] } }) : wpAny C.M A (pyIter (.ref q)) Q E w.s := by
 have hlt : q < w.s.heap.objs.size := Heap.lt_size e
 have hl : w.s.heap.IsList q vs.toArray := ⟨_, e, rfl, m, rfl⟩
 have W := Walks.list (prog := C.prog) (w := C.w) (A := A) hh w.s.heap.objs.size q (Nat.ne_of_lt hlt) vs.toArray
 rw [List.size_toArray] at W
 refine wpAny_pyIter_list hl (K _ _ _ _ W ⟨⟨_, Heap.get?_push_size _ rfl, rfl, rfl⟩, hl.push _⟩ (fun b hb => ?_) (size_none _) (fun i v => by simp))
 rw [Heap.size_push]
 rcases List.mem_cons.mp hb with rfl | hb
 ·exact Nat.lt_succ_self _
 ·rcases List.mem_cons.mp hb with rfl | hb
  ·exact Nat.lt_succ_of_lt hlt
  ·cases hb
theorem walkX {w : Wd} {q I : Addr} {h' : Heap} {tk : Nat} (hI : w.s.heap.get? I = none) (hk : ∀ b o, b ∉ [I] → (w.s.heap.push { cls := .type "list_iterator", data := .fields #[.ref q, .int 0 0] }).get? b = some o → h'.get? b = some o) (ht : w.s.toks ≤ tk) :
  Ext w ⟨w.ρ, w.π, { w.s with heap := h', toks := tk }⟩ := by
 refine ⟨rfl, fun b o e => hk b o (fun m => ?_) (Heap.get?_push_of_some _ e), rfl, rfl, rfl, ht⟩
 rw [List.mem_singleton.mp m] at e
 have e' : w.s.heap.get? I = some o := e
 exact nomatch hI.symm.trans e'
theorem preSum_take (ns : List Int) (k : Nat) : preSum (fun i => ns.getD i 0) k = (ns.take k).sum := by
 induction k with
 | zero => rfl
 | succ k ih =>
  rw [preSum, ih]
  by_cases h : k < ns.length
  ·rw [List.take_succ_eq_append_getElem h, List.sum_append, List.getD_eq_getElem?_getD, List.getElem?_eq_getElem h]; simp
  ·have h := Nat.le_of_not_lt h
   rw [List.take_of_length_le h, List.take_of_length_le (Nat.le_succ_of_le h), List.getD_eq_getElem?_getD, List.getElem?_eq_none h]; exact Int.add_zero _
theorem Fn.sum {u : V} {ns : List Int} (h : Lsy H u (ns.map .int)) (hb : ∀ k, -(2 ^ 62) < (ns.take k).sum ∧ (ns.take k).sum < 2 ^ 62) (he : ∀ x ∈ ns, -(2 ^ 62) < x ∧ x < 2 ^ 62) : Fn C n (.val (.builtin "sum")) [u] [] H H (.int ns.sum) := by
 intro A w Q E g xs ks R B rg rx rk K
 obtain ⟨_, rfl⟩ := rg.inv
 obtain ⟨z, rfl, r1⟩ := rx.inv1
 cases rk.inv0
 obtain ⟨q, vs, m, rfl, e1, r⟩ := h.isL B r1
 have hlen : vs.length = ns.length := by simpa using r.length
 refine wpAny_with_toks (Nat.le_refl _) (call_sum_walk (walkL R.hd e1 fun I fp P St W st hfp hI hP => ⟨I, fp, [I], vs.length, P, St, fun i => ns.getD i 0, rfl, W, st, hfp, fun i v hv => ?_, fun j hj => ?_, fun h' tk t' hk htk => ?_⟩))
 ·have hi : i < vs.length := (List.getElem?_eq_some_iff.mp ((hP i v).mp hv)).1
  obtain ⟨z, hz, rz⟩ := r.get (i := i) (v := .int (ns.getD i 0)) (by simp [List.getD, hlen ▸ hi])
  rw [(hP i v).mp hv] at hz; cases hz
  obtain ⟨_, rfl⟩ := rz.inv; exact ⟨_, rfl⟩
 ·have hj' : j < ns.length := hlen ▸ hj
  have h1 := he _ (List.getElem_mem hj')
  have h2 := hb (j + 1)
  rw [← preSum_take] at h2
  have e : ns.getD j 0 = ns[j] := by simp [List.getD, hj']
  unfold InLong
  simp only [e]
  omega
 ·have X := walkX (w := w) hI hk htk
  have := K ⟨w.ρ, w.π, _⟩ (.int (preSum (fun i => ns.getD i 0) vs.length) t') X.step (B.ext X) (by rw [preSum_take, hlen, List.take_length]; exact .int _ _)
  exact this
theorem argBest_lt {bt : Nat → Nat → Bool} (k : Nat) : argBest bt k ≤ k := by
 induction k with
 | zero => exact Nat.le_refl _
 | succ k ih =>
  unfold argBest
  split
  ·exact Nat.le_refl _
  ·exact Nat.le_succ_of_le ih
theorem argBest_max (val : Nat → Int) (k i : Nat) (h : i ≤ k) : val i ≤ val (argBest (fun i j => decide (val i > val j)) k) := by
 induction k generalizing i with
 | zero => rw [Nat.le_zero.mp h]; exact Int.le_refl _
 | succ k ih =>
  unfold argBest
  by_cases q : val (k + 1) > val (argBest (fun i j => decide (val i > val j)) k)
  ·rw [if_pos (decide_eq_true q)]
   rcases Nat.lt_or_eq_of_le h with h | rfl
   ·exact Int.le_of_lt (Int.lt_of_le_of_lt (ih i (Nat.le_of_lt_succ h)) q)
   ·exact Int.le_refl _
  ·rw [if_neg fun z => q (of_decide_eq_true z)]
   rcases Nat.lt_or_eq_of_le h with h | rfl
   ·exact ih i (Nat.le_of_lt_succ h)
   ·exact Int.not_lt.mp q
theorem best_max {ns : List Int} {mx : Int} (hm : mx ∈ ns) (hx : ∀ x ∈ ns, x ≤ mx) : ns.getD (argBest (fun i j => decide (ns.getD i 0 > ns.getD j 0)) (ns.length - 1)) 0 = mx := by
 have hpos : 0 < ns.length := List.length_pos_of_mem hm
 have hk := argBest_lt (bt := fun i j => decide (ns.getD i 0 > ns.getD j 0)) (ns.length - 1)
 obtain ⟨i, hi, hie⟩ := List.mem_iff_getElem.mp hm
 have h1 : ns.getD i 0 ≤ ns.getD (argBest (fun i j => decide (ns.getD i 0 > ns.getD j 0)) (ns.length - 1)) 0 := argBest_max (fun i => ns.getD i 0) (ns.length - 1) i (by lia)
 have h2 : ns.getD i 0 = mx := by rw [← hie]; simp [List.getD, hi]
 generalize argBest (fun i j => decide (ns.getD i 0 > ns.getD j 0)) (ns.length - 1) = k at *
 have hk' : k < ns.length := by lia
 have h3 : ns.getD k 0 = ns[k] := by simp [List.getD, hk']
 have h4 := hx _ (List.getElem_mem hk')
 lia
theorem int_at {w : Wd} {ns : List Int} {vs : List Value} (r : VRels w (ns.map V.int) vs) {i : Nat} {v : Value} (h : vs[i]? = some v) : ∃ t, v = .int (ns.getD i 0) t := by
 have hi : i < vs.length := (List.getElem?_eq_some_iff.mp h).1
 have hlen : vs.length = ns.length := by simpa using r.length
 obtain ⟨z, hz, rz⟩ := r.get (i := i) (v := .int (ns.getD i 0)) (by simp [List.getD, hlen ▸ hi])
 obtain rfl := Option.some.inj (h.symm.trans hz)
 obtain ⟨_, rfl⟩ := rz.inv; exact ⟨_, rfl⟩
theorem Fn.maxL {u : V} {ns : List Int} {mx : Int} (h : Lsy H u (ns.map .int)) (hm : mx ∈ ns) (hx : ∀ x ∈ ns, x ≤ mx) : Fn C n (.val (.builtin "max")) [u] [] H H (.int mx) := by
 intro A w Q E g xs ks R B rg rx rk K
 obtain ⟨_, rfl⟩ := rg.inv
 obtain ⟨z, rfl, r1⟩ := rx.inv1
 cases rk.inv0
 obtain ⟨q, vs, m, rfl, e1, r⟩ := h.isL B r1
 have hlen : vs.length = ns.length := by simpa using r.length
 have hpos : 0 < ns.length := List.length_pos_of_mem hm
 refine wpAny_with_toks (Nat.le_refl _) (call_max_walk (walkL R.hd e1 fun I fp P St W st hfp hI hP => ⟨I, fp, [I], vs.length, P, St, fun i j => decide (ns.getD i 0 > ns.getD j 0), rfl, W, st, hfp, by lia,
  CmpOf.ints_gt (fun i => ns.getD i 0) (fun i v hv => int_at r ((hP i v).mp hv)), fun v h' tk hv hk htk => ?_⟩))
 have X := walkX (w := w) hI hk htk
 obtain ⟨t, rfl⟩ := int_at r ((hP _ v).mp hv)
 have e := best_max hm hx
 rw [← hlen] at e
 exact K ⟨w.ρ, w.π, _⟩ _ X.step (B.ext X) (by rw [e]; exact .int _ _)
noncomputable def fltAt (fs : List UInt64) (i : Nat) : UInt64 := fs.getD i 0
theorem flt_at {w : Wd} {ns : List UInt64} {vs : List Value} (r : VRels w (ns.map V.flt) vs) {i : Nat} {v : Value} (h : vs[i]? = some v) : ∃ t, v = .float (fltAt ns i) t ∧ VRel w (.flt (fltAt ns i)) v := by
 have hi : i < vs.length := (List.getElem?_eq_some_iff.mp h).1
 have hlen : vs.length = ns.length := by simpa using r.length
 obtain ⟨z, hz, rz⟩ := r.get (i := i) (v := .flt (ns.getD i 0)) (by simp [List.getD, hlen ▸ hi])
 obtain rfl := Option.some.inj (h.symm.trans hz)
 obtain ⟨t, rfl, ht⟩ := rz.inv; exact ⟨_, rfl, .flt _ _ ht⟩
noncomputable def gtF (x y : UInt64) : Bool := Float64.cmp x y == some .gt
noncomputable def ltF (x y : UInt64) : Bool := Float64.cmp x y == some .lt
theorem Fn.max3 {x y z : UInt64} : Fn C n (.val (.builtin "max")) [.flt x, .flt y, .flt z] [] H H (.flt (fltAt [x, y, z] (argBest (fun i j => gtF (fltAt [x, y, z] i) (fltAt [x, y, z] j)) 2))) := by
 intro A w Q E g xs ks R B rg rx rk K
 obtain ⟨_, rfl⟩ := rg.inv
 cases rk.inv0
 have rx' : VRels w ([x, y, z].map V.flt) xs := rx
 obtain ⟨a, b, c, rfl, -, -, -⟩ := rx.inv3
 have hT : (w.s.heap.push { cls := .type "tuple", data := .seq #[a, b, c] }).IsTuple w.s.heap.objs.size #[a, b, c] := ⟨_, Heap.get?_push_size _ rfl, rfl, 0, rfl⟩
 have hsz : (w.s.heap.push { cls := .type "tuple", data := .seq #[a, b, c] }).objs.size = w.s.heap.objs.size + 1 := Heap.size_push ..
 refine wpAny_with_toks (Nat.le_refl _) (call_max_three (wpAny_pyIter_tuple hT ?_))
 refine ⟨_, [_, w.s.heap.objs.size], [_], _, _, _, _, rfl, Walks.tuple (A := A.in1) R.hd _ w.s.heap.objs.size (by rw [hsz]; exact Nat.ne_of_lt (Nat.lt_succ_self _)) #[a, b, c],
  ⟨⟨_, Heap.get?_push_size _ rfl, rfl, rfl⟩, hT.push _⟩, fun d hd => ?_, by simp, (?_ : CmpOf _ _ _ _ _ (fun i j => gtF (fltAt [x, y, z] i) (fltAt [x, y, z] j))), fun v h' tk hP hk htk => ?_⟩
 ·show d < ((w.s.heap.push _).push _).objs.size
  rw [Heap.size_push, hsz]
  rcases List.mem_cons.mp hd with rfl | hd
  ·rw [hsz]; exact Nat.lt_succ_self _
  ·rcases List.mem_cons.mp hd with rfl | hd
   ·exact Nat.lt_succ_of_lt (Nat.lt_succ_self _)
   ·cases hd
 ·intro i j vi vj s Q E hi hj hq
  obtain ⟨t, rfl, _⟩ := flt_at rx' (i := i) (by simpa using hi)
  obtain ⟨u, rfl, _⟩ := flt_at rx' (i := j) (by simpa using hj)
  exact AutoFloatOps.gt_0 hq
 ·have X : Ext w ⟨w.ρ, w.π, { w.s with heap := h', toks := tk }⟩ := by
   refine ⟨rfl, fun b o e => hk b o (fun hm => ?_) (Heap.get?_push_of_some _ (Heap.get?_push_of_some _ e)), rfl, rfl, rfl, htk⟩
   rw [List.mem_singleton.mp hm, hsz] at e
   exact Nat.lt_irrefl _ (Nat.lt_of_succ_lt (Heap.lt_size e))
  obtain ⟨t, rfl, rv⟩ := flt_at rx' (i := argBest (fun i j => gtF (fltAt [x, y, z] i) (fltAt [x, y, z] j)) 2) (by simpa using hP)
  exact K ⟨w.ρ, w.π, _⟩ _ X.step (B.ext X) (rv.ext X)
theorem Fn.min3 {x y z : UInt64} : Fn C n (.val (.builtin "min")) [.flt x, .flt y, .flt z] [] H H (.flt (fltAt [x, y, z] (argBest (fun i j => ltF (fltAt [x, y, z] i) (fltAt [x, y, z] j)) 2))) := by
 intro A w Q E g xs ks R B rg rx rk K
 obtain ⟨_, rfl⟩ := rg.inv
 cases rk.inv0
 have rx' : VRels w ([x, y, z].map V.flt) xs := rx
 obtain ⟨a, b, c, rfl, -, -, -⟩ := rx.inv3
 have hT : (w.s.heap.push { cls := .type "tuple", data := .seq #[a, b, c] }).IsTuple w.s.heap.objs.size #[a, b, c] := ⟨_, Heap.get?_push_size _ rfl, rfl, 0, rfl⟩
 have hsz : (w.s.heap.push { cls := .type "tuple", data := .seq #[a, b, c] }).objs.size = w.s.heap.objs.size + 1 := Heap.size_push ..
 refine wpAny_with_toks (Nat.le_refl _) (call_min_three (wpAny_pyIter_tuple hT ?_))
 refine ⟨_, [_, w.s.heap.objs.size], [_], _, _, _, _, rfl, Walks.tuple (A := A.in1) R.hd _ w.s.heap.objs.size (by rw [hsz]; exact Nat.ne_of_lt (Nat.lt_succ_self _)) #[a, b, c],
  ⟨⟨_, Heap.get?_push_size _ rfl, rfl, rfl⟩, hT.push _⟩, fun d hd => ?_, by simp, (?_ : CmpOf _ _ _ _ _ (fun i j => ltF (fltAt [x, y, z] i) (fltAt [x, y, z] j))), fun v h' tk hP hk htk => ?_⟩
 ·show d < ((w.s.heap.push _).push _).objs.size
  rw [Heap.size_push, hsz]
  rcases List.mem_cons.mp hd with rfl | hd
  ·rw [hsz]; exact Nat.lt_succ_self _
  ·rcases List.mem_cons.mp hd with rfl | hd
   ·exact Nat.lt_succ_of_lt (Nat.lt_succ_self _)
   ·cases hd
 ·intro i j vi vj s Q E hi hj hq
  obtain ⟨t, rfl, _⟩ := flt_at rx' (i := i) (by simpa using hi)
  obtain ⟨u, rfl, _⟩ := flt_at rx' (i := j) (by simpa using hj)
  exact AutoFloatOps.lt_0 hq
 ·have X : Ext w ⟨w.ρ, w.π, { w.s with heap := h', toks := tk }⟩ := by
   refine ⟨rfl, fun b o e => hk b o (fun hm => ?_) (Heap.get?_push_of_some _ (Heap.get?_push_of_some _ e)), rfl, rfl, rfl, htk⟩
   rw [List.mem_singleton.mp hm, hsz] at e
   exact Nat.lt_irrefl _ (Nat.lt_of_succ_lt (Heap.lt_size e))
  obtain ⟨t, rfl, rv⟩ := flt_at rx' (i := argBest (fun i j => ltF (fltAt [x, y, z] i) (fltAt [x, y, z] j)) 2) (by simpa using hP)
  exact K ⟨w.ρ, w.π, _⟩ _ X.step (B.ext X) (rv.ext X)
end
end
section
open PySem in
noncomputable def eqInt (a : Int) : Value → Bool
 | .int b _ => b == a
 | _ => false
noncomputable def eqStr (a : Str) : Value → Bool
 | .str b _ => b == a
 | _ => false
section
variable {C : Ct} {n : Nat} {env : Env} {σ σ' σ1 : Loc} {H H' H0 H1 H2 H3 : List HObj} {pos p pos' tpos : Pos} {k : Nat} {x y : Str} {v v1 v2 v3 : V} {e e1 e2 e3 : PySem.Expr} {o : Out} {es : List PySem.Expr} {vs : List V} {a b : Int}
theorem countP_ints {w : Wd} {a : Int} {ns : List Int} : ∀ {vs : List Value}, VRels w (ns.map V.int) vs → vs.countP (eqInt a) = ns.count a := by
 induction ns with
 | nil => intro vs r; obtain rfl := r.inv; rfl
 | cons m ns ih =>
  intro vs r
  obtain ⟨x, ys, rfl, q, r2⟩ := r.inv
  obtain ⟨t, rfl⟩ := q.inv
  rw [List.countP_cons, List.count_cons, ih r2]; rfl
theorem Fn.count {u : V} {ns : List Int} (h : Lsy H u (ns.map .int)) : Fn C n (.val (.builtin "list.count")) [u, .int a] [] H H (.int (ns.count a)) := by
 intro A w Q E g xs ks R B rg rx rk K
 obtain ⟨_, rfl⟩ := rg.inv
 obtain ⟨z1, z2, rfl, r1, r2⟩ := rx.inv2
 cases rk.inv0
 obtain ⟨q, vs, m, rfl, e1, r⟩ := h.isL B r1
 obtain ⟨t, rfl⟩ := r2.inv
 refine call_meets F.slot_list_count ⟨_, e1, rfl⟩ F.entry_list_count (F.args_list_count_2 _ _) (SeqAt.list_countAt q vs.toArray m none #[] (.int a t) (eqInt a)) ⟨e1, fun y hy => ?_, ?_⟩
 ·obtain ⟨i, hi⟩ := List.getElem?_of_mem (List.mem_toArray.mp hy)
  obtain ⟨t', rfl⟩ := int_at r hi
  exact SeqAt.EqAt.int_int _ _ _ _
 ·have := K ⟨w.ρ, w.π, { w.s with toks := w.s.toks + 1 }⟩ (.int ((vs.toArray.toList.countP (eqInt a) : Nat) : Int) w.s.toks) Ext.toks.step (B.ext Ext.toks) (by rw [List.toList_toArray, countP_ints r]; exact .int _ _)
  exact this
theorem str_at {w : Wd} {ns : List Str} {vs : List Value} (r : VRels w (ns.map V.str) vs) {i : Nat} {v : Value} (h : vs[i]? = some v) : ∃ y t, ns[i]? = some y ∧ v = .str y t := by
 have hi : i < vs.length := (List.getElem?_eq_some_iff.mp h).1
 have hlen : vs.length = ns.length := by simpa using r.length
 have hi' : i < ns.length := hlen ▸ hi
 obtain ⟨z, hz, rz⟩ := r.get (i := i) (v := .str ns[i]) (by simp [hi'])
 obtain rfl := Option.some.inj (h.symm.trans hz)
 obtain ⟨_, rfl⟩ := rz.inv; exact ⟨_, _, List.getElem?_eq_getElem hi', rfl⟩
theorem Fn.index {u : V} {ns : List Str} {j : Nat} (h : Lsy H u (ns.map .str)) (hj : ns[j]? = some x) (hno : ∀ i, i < j → ns[i]? ≠ some x) (hl : ns.length < 2 ^ 60) : Fn C n (.val (.builtin "list.index")) [u, .str x] [] H H (.int j) := by
 intro A w Q E g xs ks R B rg rx rk K
 obtain ⟨_, rfl⟩ := rg.inv
 obtain ⟨z1, z2, rfl, r1, r2⟩ := rx.inv2
 cases rk.inv0
 obtain ⟨q, vs, m, rfl, e1, r⟩ := h.isL B r1
 obtain ⟨t, rfl⟩ := r2.inv
 have hlen : vs.length = ns.length := by simpa using r.length
 have hj' : j < ns.length := (List.getElem?_eq_some_iff.mp hj).1
 have at_ : ∀ i (hi : i < vs.length), ∃ y t, ns[i]? = some y ∧ vs[i] = .str y t := fun i hi => str_at r (List.getElem?_eq_getElem hi)
 refine call_meets F.slot_list_index ⟨_, e1, rfl⟩ F.entry_list_index (F.args_list_index_2 _ _) (SeqAt.list_indexAt q vs.toArray m none #[] (.str x t) (eqStr x) j (by simp; lia) (by lia) ?_ fun i hi hlt => ?_) ⟨e1, fun y hy => ?_, ?_⟩
 ·obtain ⟨y, t', h1, h2⟩ := at_ j (by lia)
  obtain rfl := Option.some.inj (hj.symm.trans h1)
  show eqStr x vs[j] = true; rw [h2]; exact beq_self_eq_true x
 ·obtain ⟨y, t', h1, h2⟩ := at_ i (by simpa using hi)
  have : y ≠ x := fun z => hno i hlt (z ▸ h1)
  show eqStr x vs[i] = false; rw [h2]; exact beq_false_of_ne this
 ·obtain ⟨i, hi⟩ := List.getElem?_of_mem (List.mem_toArray.mp hy)
  obtain ⟨y', t', _, rfl⟩ := str_at r hi
  exact SeqAt.EqAt.str_str _ _ _ _
 ·exact K ⟨w.ρ, w.π, _⟩ _ Ext.toks.step (B.ext Ext.toks) (.int _ _)
theorem VRels.pick {w : Wd} {l : List V} {vs : List Value} (r : VRels w l vs) (is : List Nat) : VRels w (is.filterMap (l[·]?)) (is.filterMap (vs[·]?)) := by
 induction is with
 | nil => exact .nil
 | cons i is ih =>
  rw [List.filterMap_cons, List.filterMap_cons]
  by_cases h : i < l.length
  ·obtain ⟨z, hz, rz⟩ := r.get (List.getElem?_eq_getElem h)
   rw [hz, List.getElem?_eq_getElem h]
   exact .cons rz ih
  ·have h := Nat.le_of_not_lt h
   rw [List.getElem?_eq_none h, List.getElem?_eq_none (r.length ▸ h)]
   exact ih
theorem fm_congr {α β : Type} {f g : α → Option β} {l : List α} (h : ∀ a ∈ l, f a = g a) : l.filterMap f = l.filterMap g := by
 induction l with
 | nil => rfl
 | cons a l ih => rw [List.filterMap_cons, List.filterMap_cons, h a (.head _), ih fun b m => h b (.tail _ m)]
noncomputable def pick {α : Type} (l : List α) (lo hi st : Option Int) : List α :=
 (sliceRange (sliceBounds lo hi st l.length).1 (sliceBounds lo hi st l.length).2.1 (sliceBounds lo hi st l.length).2.2).filterMap (l[·]?)
theorem slicePick_pick (vs : List Value) (lo hi st : Option Int) : slicePick vs.toArray lo hi st = (pick vs lo hi st).toArray := by
 unfold slicePick pick
 rw [List.size_toArray]
 congr 1
 apply fm_congr
 intro i _
 simp
theorem VRels.picked {w : Wd} {l : List V} {vs : List Value} (r : VRels w l vs) (lo hi st : Option Int) : VRels w (Mine.pick l lo hi st) (Mine.pick vs lo hi st) := by
 unfold Mine.pick
 rw [r.length]; exact r.pick _
theorem sliceRange_1 (a n : Nat) : sliceRange (a : Int) (n : Int) 1 = (List.range (n - a)).map (a + ·) := by
 unfold sliceRange
 dsimp only
 have hc : (if (1 : Int) > 0 then (if (a : Int) < n then ((n : Int) - a + 1 - 1) / 1 else 0) else (if (a : Int) > n then ((a : Int) - n - 1 - 1) / (-1) else 0)).toNat = n - a := by
  simp only [show (1 : Int) > 0 by decide, if_true]
  split <;> lia
 rw [hc]
 apply List.map_congr_left
 intro k _
 lia
theorem pick_run' {α : Type} (l : List α) (a k : Nat) : ((List.range k).map (a + ·)).filterMap (l[·]?) = (l.drop a).take k := by
 induction k with
 | zero => rfl
 | succ k ih =>
  rw [List.range_succ, List.map_append, List.filterMap_append, ih, List.take_add_one, List.getElem?_drop]
  congr 1
theorem pick_from {α : Type} (l : List α) (a : Nat) : pick l (some (a : Int)) none none = l.drop a := by
 have e : sliceBounds (some (a : Int)) none none l.length = (((min a l.length : Nat) : Int), (l.length : Int), 1) := by
  simp only [sliceBounds, Option.getD_none]
  have h1 : ¬ ((a : Int) < 0) := by lia
  simp only [h1, if_false, show (1 : Int) > 0 by decide, if_true]
  congr 1
  omega
 unfold pick
 rw [e]
 simp only [sliceRange_1, pick_run']
 rcases Nat.le_total a l.length with h | h
 ·rw [Nat.min_eq_left h, List.take_of_length_le (by simp)]
 ·rw [Nat.min_eq_right h, List.drop_of_length_le (Nat.le_refl _), List.drop_of_length_le h]; simp
theorem pick_upto {α : Type} (l : List α) (b : Nat) : pick l none (some (b : Int)) none = l.take b := by
 have e : sliceBounds none (some (b : Int)) none l.length = (((0 : Nat) : Int), ((min b l.length : Nat) : Int), 1) := by
  simp only [sliceBounds, Option.getD_none]
  have h2 : ¬ ((b : Int) < 0) := by lia
  simp only [h2, if_false, show (1 : Int) > 0 by decide, if_true]
  congr 1
  congr 1; lia
 unfold pick
 rw [e]
 simp only [sliceRange_1, pick_run', List.drop_zero, Nat.sub_zero]
 rcases Nat.le_total b l.length with h | h
 ·rw [Nat.min_eq_left h]
 ·rw [Nat.min_eq_right h, List.take_of_length_le (Nat.le_refl _), List.take_of_length_le h]
theorem pick_all {α : Type} (l : List α) : pick l none none none = l := by
 have e : sliceBounds none none none l.length = (((0 : Nat) : Int), (l.length : Int), 1) := by
  simp [sliceBounds]
 unfold pick
 rw [e]
 simp only [sliceRange_1, pick_run', List.drop_zero, Nat.sub_zero, List.take_length]
theorem pick_map {α β : Type} (f : α → β) (l : List α) (lo hi st : Option Int) : pick (l.map f) lo hi st = (pick l lo hi st).map f := by
 unfold pick
 rw [List.length_map, List.map_filterMap]
 apply fm_congr
 intro i _
 simp
noncomputable def EvP (C : Ct) (n : Nat) (env : Env) (σ : Loc) (H : List HObj) (e : Option PySem.Expr) (H' : List HObj) (i : Option Int) : Prop :=
 ∀ (A : Around) (w : Wd) (Q E : Value → Shared → Prop), Room A n → BSt C w H → FSt C w env σ →
  (∀ w' (t : Tok), Step [] w w' → BSt C w' H' → FSt C w' env σ → Q (partValue (i.map fun j => (j, t))) w'.s) → wpAny C.M A (evalPart e env) Q E w.s
theorem EvP.none : EvP C n env σ H Option.none H Option.none := fun q_ w q_ q_ q_ B F K => wpAny_pure (K w 0 (Step.refl _ _) B F)
theorem EvP.some (h : Ev C n env σ H e H1 (.int a)) : EvP C n env σ H (some e) H1 (some a) := fun A w Q E R B F K => by
 rw [evalPart_some]
 exact h A w Q E R B F fun w' y S B' F' r => by obtain ⟨_, rfl⟩ := r.inv; exact K w' _ S B' F'
theorem part_is {i : Option Int} {t : Tok} : IsPart (partValue (i.map fun j => (j, t))) i := by
 cases i with
 | none => exact .none
 | some j => exact .int j t
theorem Ev.sliceL {lo hi st : Option PySem.Expr} {u : V} {l : List V} {i j k : Option Int} (h1 : Ev C n env σ H e H1 u) (h2 : EvP C n env σ H1 lo H2 i) (h3 : EvP C n env σ H2 hi H3 j) (h4 : EvP C n env σ H3 st H' k) (hl : Lsy H' u l) (h0 : k ≠ some 0) (hz : l.length ≤ sizeLine)
  (hs : ∀ o i, ∃ ops, subscripted (.Slice lo hi st p) false o i = operate ops (getItem o i)) : Ev C n env σ H (.Subscript e (.Slice lo hi st p) pos) H' (.lst (pick l i j k)) := by
 intro A w Q E R B F K
 refine Subscript_ (h1 A w _ E R B F fun w1 y1 S1 B1 F1 r1 => wpAny_Slice (h2 A w1 _ E R B1 F1 fun w2 t2 S2 B2 F2 => h3 A w2 _ E R B2 F2 fun w3 t3 S3 B3 F3 => h4 A w3 _ E R B3 F3 fun w4 t4 S4 B4 F4 => ?_))
 have ru := ((r1.step0 S2).step0 S3).step0 S4
 generalize hL : partValue (i.map fun j => (j, t2)) = vl
 generalize hU : partValue (j.map fun j => (j, t3)) = vu
 generalize hT : partValue (k.map fun j => (j, t4)) = vt
 have X : Ext w4 ⟨w4.ρ, w4.π, { w4.s with heap := w4.s.heap.push { cls := .type "slice", data := .fields #[vl, vu, vt] } }⟩ := Ext.push _
 obtain ⟨q, vs, m, rfl, e1, r⟩ := hl.isL (B4.ext X) (ru.ext X)
 obtain ⟨ops, hops⟩ := hs (.ref q) (.ref w4.s.heap.objs.size)
 have hlen := r.length
 refine PyProof.Rows.tail_any (T := "list") ⟨_, e1, rfl⟩ PySem.F.slot_list_getitem.lookup (wpAny_getItem_list_slice (isList_ofL (w := ⟨w4.ρ, w4.π, _⟩) e1) (Heap.IsSliceOf.new _ vl vu vt) (hL ▸ part_is) (hU ▸ part_is) (hT ▸ part_is) h0 ?_ ?_) hops
 ·rw [slicePick_pick]
  have X2 : Ext ⟨w4.ρ, w4.π, { w4.s with heap := w4.s.heap.push { cls := .type "slice", data := .fields #[vl, vu, vt] } }⟩ ⟨w4.ρ, w4.π, { w4.s with heap := (w4.s.heap.push { cls := .type "slice", data := .fields #[vl, vu, vt] }).push { cls := .type "list", data := .seq (pick vs i j k).toArray } }⟩ := Ext.push _
  have XX := X.trans X2
  refine K ⟨w4.ρ, w4.π, _⟩ _ ((((S1.trans S2).trans S3).trans S4).trans XX.step) (B4.ext XX) (F4.ext XX) (.lst (n := 0) (Heap.get?_push_size _ rfl) ((B4.ext X).fresh (size_none _)) ((r.picked i j k).ext X2))
 ·exact Nat.le_trans (Nat.le_of_eq ((List.size_toArray ..).trans hlen)) hz
end
end
section
open PySem.Builtin.Str
theorem strsAre {w : Wd} {ns : List Str} : ∀ {vs : List Value}, VRels w (ns.map V.str) vs → StrsAre vs ns := by
 induction ns with
 | nil => intro vs r; obtain rfl := r.inv; exact .nil
 | cons m ns ih =>
  intro vs r
  obtain ⟨x, ys, rfl, q, r2⟩ := r.inv
  obtain ⟨t, rfl⟩ := q.inv
  exact .cons _ _ (ih r2)
section
variable {C : Ct} {n : Nat} {env : Env} {σ σ' σ1 : Loc} {H H' H0 H1 H2 H3 : List HObj} {pos p pos' tpos : Pos} {k : Nat} {x y : Str} {v v1 v2 v3 : V} {e e1 e2 e3 : PySem.Expr} {o : Out} {es : List PySem.Expr} {vs : List V} {a b : Int}
theorem Fn.join {u : V} {ns : List Str} (h : Lsy H u (ns.map .str)) (hok : (ns.map (·.length)).sum + ns.length * x.length ≤ 16777216) : Fn C n (.val (.builtin "str.join")) [.str x, u] [] H H (.str (Txt.join x ns)) := by
 intro A w Q E g xs ks R B rg rx rk K
 obtain ⟨_, rfl⟩ := rg.inv
 obtain ⟨z1, z2, rfl, r1, r2⟩ := rx.inv2
 cases rk.inv0
 obtain ⟨q, vs, m, rfl, e1, r⟩ := h.isL B r2
 obtain ⟨t, rfl⟩ := r1.inv
 refine wpAny_with_toks (Nat.le_refl _) (join_list (isList_ofL e1) (by simpa using strsAre r) hok fun t' k htk => ?_)
 exact K ⟨w.ρ, w.π, _⟩ _ (Ext.toksT htk).step (B.ext (Ext.toksT htk)) (.str _ _)
theorem strRels {w : Wd} : ∀ (l : List (Str × Tok)), VRels w ((l.map (·.1)).map V.str) (strValues l)
 | [] => .nil
 | (x, t) :: l => .cons (.str x t) (strRels l)
theorem Fn.split (h1 : x.length ≤ sizeLine) (h2 : (spaceWords x (x.length + 1)).length ≤ sizeLine) : Fn C n (.val (.builtin "str.split")) [.str x] [] H H (.lst ((Txt.words x).map .str)) := by
 intro A w Q E g xs ks R B rg rx rk K
 obtain ⟨_, rfl⟩ := rg.inv
 obtain ⟨z1, rfl, r1⟩ := rx.inv1
 cases rk.inv0
 obtain ⟨t, rfl⟩ := r1.inv
 refine wpAny_with_toks (Nat.le_refl _) (call_meets F.slot_str_split (typeIs_str _ _ _) F.entry_str_split (F.args_str_split_1 _) (meets_str_split_space x t h1 h2) ?_)
 have fin : ∀ (l : List (Str × Tok)) (tk : Nat), l.map (·.1) = Txt.words x → w.s.toks ≤ tk → Q (.ref w.s.heap.objs.size) { w.s with heap := w.s.heap.push { cls := .type "list", data := .seq (strValues l).toArray }, toks := tk } := fun l tk hl htk => by
  have X : Ext w ⟨w.ρ, w.π, { w.s with heap := w.s.heap.push { cls := .type "list", data := .seq (strValues l).toArray }, toks := tk }⟩ := ⟨rfl, fun q_ q_ e => Heap.get?_push_of_some _ e, rfl, rfl, rfl, htk⟩
  exact K ⟨w.ρ, w.π, _⟩ _ X.step (B.ext X) (.lst (n := 0) (Heap.get?_push_size _ rfl) (B.fresh (size_none _)) (hl ▸ (strRels l)))
 cases hw : spaceWords x (x.length + 1) == [(0, x.length)]
 ·simp only [Bool.false_eq_true, if_false]
  rw [strsFrom_eq]
  intro htk
  exact fin (numbered w.s.toks (PySem.wordsOf x)) _ ((numbered_texts _ _).trans (if_neg (ne_true_of_eq_false hw)).symm) htk
 ·simp only [if_true]
  intro htk
  exact fin [(x, t)] _ (if_pos hw).symm htk
end
end
section
noncomputable def FnI (C : Ct) (n : Nat) (f : V) (args : List V) (H H' : List HObj) (Ok : List HObj → Prop) (T : PySem.Expr → Bool) (l : List V) : Prop :=
 ∀ (A : Around) (w : Wd) (Q E : Value → Shared → Prop) (g : Value) (xs : List Value), Room A n → BSt C w H → VRel w f g → VRels w args xs →
  (∀ w' it X P P', Step [] w w' → BSt C w' H' → (∀ a ∈ X, w.h.get? a = none) → NextOk C n Ok T it X l P P' → P 0 w' → Q it w'.s) → wpAny C.M A (call g xs []) (fun y s => wpAny C.M A (pyIter y) Q E s) E w.s
noncomputable def isTupT : PySem.Expr → Bool
 | .Tuple .. => true
 | _ => false
theorem isTup_inv {e : PySem.Expr} (h : isTupT e = true) : ∃ es k pos, e = .Tuple es k pos := by
 cases e <;> first | exact ⟨_, _, _, rfl⟩ | exact Bool.noConfusion h
section
variable {C : Ct} {n : Nat} {env : Env} {σ σ' σ1 : Loc} {H H' H0 H1 H2 H3 : List HObj} {pos p pos' tpos : Pos} {k : Nat} {x y : Str} {v v1 v2 v3 : V} {e e1 e2 e3 : PySem.Expr} {o : Out} {es : List PySem.Expr} {vs : List V} {a b : Int}
theorem SrcE.call {f : V} {id : Str} {Ok : List HObj → Prop} {T : PySem.Expr → Bool} {l : List V} (hf : Ev C n env σ H (.Name id p) H1 f) (ha : EvA C n env σ H1 pos es [] H2 vs [])
  (hc : FnI C n f vs H2 H2 Ok T l) (hk : Kp C f) (hp : ∀ env : Env, ((backTo pos (starEach es env)).any (·.1) || (backToKw pos (keywordEach [] env)).any (·.1.isNone)) = false) : SrcE C n env σ H (.Call (.Name id p) es [] pos) H2 Ok T l := by
 intro A w Q E R B F K
 refine wpAny_Call_Name_kw (hf A w _ E R B F fun w1 g S1 B1 F1 r1 => ?_)
 refine callWith_of (P := KpAt C g) (hp env) (fun q_ z => z) (ha A w1 g _ E R B1 F1 fun w2 ys zs S2 B2 F2 r2 r3 => ⟨hk w2 H2 g B2 (r1.step0 S2), ?_⟩)
 cases r3.inv0
 exact hc A w2 Q E g ys R B2 (r1.step0 S2) r2 fun w3 it X P P' S3 B3 hX N p3 => K w2 w3 it X P P' (S1.trans S2) B2 F2 S3 B3 hX N p3
noncomputable def enumV (l : List V) : List V := l.zipIdx.map fun p => .tup [.int p.2, p.1]
theorem enumV_at {l : List V} {i : Nat} {v : V} (h : (enumV l)[i]? = some v) : ∃ u, l[i]? = some u ∧ v = .tup [.int i, u] := by
 unfold enumV at h
 rw [List.getElem?_map, List.getElem?_zipIdx] at h
 cases q : l[i]? with
 | none => rw [q] at h; cases h
 | some u => rw [q] at h; simp at h; exact ⟨u, rfl, h.symm⟩
theorem enumV_len {l : List V} : (enumV l).length = l.length := by simp [enumV]
theorem FnI.enum {u : V} {l : List V} (hl : Lsy H u l) : FnI C n (.val (.type "enumerate")) [u] H H (fun H' => Lsy H' u l) isTupT (enumV l) := by
 intro A w Q E g xs R B rg rx K
 obtain ⟨_, rfl⟩ := rg.inv
 obtain ⟨x, rfl, r1⟩ := rx.inv1
 obtain ⟨q, vs, m, rfl, e1, r⟩ := hl.isL B r1
 refine call_enumerate_list (isList_ofL e1) fun h' he hit hsz hk => wpAny_pyIter_enum he ?_
 have X1 : Ext w ⟨w.ρ, w.π, { w.s with heap := h' }⟩ := ⟨rfl, hk, rfl, rfl, rfl, Nat.le_refl _⟩
 have nw : ∀ a, w.s.heap.objs.size ≤ a → w.h.get? a = none := fun a ha => by
  cases z : w.h.get? a with
  | none => rfl
  | some o => exact absurd (Heap.lt_size z) (Nat.not_lt.mpr ha)
 generalize hI : w.s.heap.objs.size = I at he hit
 have hIe : I ≠ I + 1 := Nat.ne_of_lt (Nat.lt_succ_self _)
 refine K ⟨w.ρ, w.π, { w.s with heap := h' }⟩ (.ref (I + 1)) [I + 1, I] (fun i w' => VRel w' u (.ref q) ∧ w'.h.IsListIter I q i ∧ ∃ old, IsEnum w'.h (I + 1) I i old)
  (fun i y w' => VRel w' u (.ref q) ∧ w'.h.IsListIter I q i ∧ ∃ a x, y = .ref a ∧ IsEnumOut w'.h (I + 1) I i x a) X1.step (B.ext X1) (fun a ha => ?_) ?_ ⟨r1.ext X1, hit, _, he⟩
 ·rcases List.mem_cons.mp ha with rfl | ha
  ·exact nw _ (by lia)
  ·rw [List.mem_singleton.mp ha]; exact nw _ (by lia)
 ·clear X1 hk hsz nw he hit hI e1 r r1 rx hl
  refine ⟨fun A w1 Q E R p K => let ⟨_, h⟩ := p.2.2; wpAny_pyIter_enum h K, ?_, ?_, ?_, ?_, ?_, ?_⟩
  ·rintro i w' ⟨_, ⟨o, ho, hc, hd⟩, old, he⟩ b hb
   rcases List.mem_cons.mp hb with rfl | hb
   ·exact ⟨_, _, _, he, rfl, rfl, by decide⟩
   ·rw [List.mem_singleton.mp hb]; exact ⟨o, _, _, ho, hd, hc, by decide⟩
  ·rintro i y w' ⟨_, ⟨o, ho, hc, hd⟩, a, x, _, he⟩ b hb
   rcases List.mem_cons.mp hb with rfl | hb
   ·exact ⟨_, _, _, he, rfl, rfl, by decide⟩
   ·rw [List.mem_singleton.mp hb]; exact ⟨o, _, _, ho, hd, hc, by decide⟩
  ·rintro i w1 w2 Y ⟨r1, ⟨o, ho, hc, hd⟩, old, he⟩ S hY hXY hρ
   exact ⟨r1.step hY S, ⟨o, S.keep _ o ho (hρ I (.tail _ (.head _))) (hXY I (.tail _ (.head _))), hc, hd⟩, old, S.keep _ _ he (hρ _ (.head _)) (hXY _ (.head _))⟩
  ·rintro i v A w1 H1 Q E hi R B1 ok ⟨r1, hit, old, he⟩ hX K
   obtain ⟨u', hu, rfl⟩ := enumV_at hi
   obtain ⟨vs, m, ho, rv⟩ := r1.at B1 ok
   obtain ⟨z, h1, h2⟩ := rv.get hu
   refine wpAny_pyNext_enum_item he hit (isList_of ho) (by simpa using h1) (Ne.symm hIe) fun h' he' hit' ht' hsz' hk' => ?_
   obtain ⟨S, ks⟩ := step_two (w := w1) (a := I + 1) (b := I) (h' := h') (t := w1.s.toks + 1) (Nat.le_succ _) (fun b o p q e => hk' b o p q e)
   refine K ⟨w1.ρ, w1.π, _⟩ _ S rfl ks ⟨r1.step hX S, hit', _, _, rfl, he'⟩ ?_
   exact .tup (vs := [.int i w1.s.toks, z]) (n := 0) ht' (B1.fresh (size_none _)) (.cons (.int _ _) (.cons (h2.step hX S) .nil))
  ·rintro A w1 H1 Q E R B1 ok ⟨r1, hit, old, he⟩ hX K
   obtain ⟨vs, m, ho, rv⟩ := r1.at B1 ok
   rw [enumV_len] at hit he
   refine wpAny_pyNext_enum_end R.hd he hit (isList_of ho) ?_ fun h' hs => ?_
   ·rw [← rv.length]; simp
   ·obtain ⟨S, ks⟩ := step_two (w := w1) (a := I + 1) (b := I) (h' := h') (t := w1.s.toks) (Nat.le_refl _) (fun b o p q e => hs b o q e)
    exact K ⟨w1.ρ, w1.π, _⟩ S rfl ks
  ·rintro i A w1 H1 target v y Q E hT _ ⟨r1, hit, a, x, rfl, he⟩ hX B1 rv K
   obtain ⟨_, _, _, rfl⟩ := isTup_inv hT
   refine wpAny_letOwnedTupleGo_enum he fun h' he' hs => ?_
   obtain ⟨S, ks⟩ := step_two (w := w1) (a := I + 1) (b := I) (h' := h') (t := w1.s.toks) (Nat.le_refl _) (fun b o p q e => (hs.2 b p).trans e)
   exact K ⟨w1.ρ, w1.π, _⟩ S rfl ks ⟨r1.step hX S, hit.extBut hs.extBut hIe, x, he'⟩
end
end
section
inductive Turn (C : Ct) (n : Nat) (env : Env) (target : PySem.Expr) (body : List PySem.Stmt) (v : V) (σ : Loc) (H : List HObj) (σ' : Loc) (H' : List HObj) : Prop
 | mk {σ0 σ1} : As C n env target v σ H σ0 → Ex C n env σ0 H body (.next σ1 H') → (∀ x u, σ'.lookup x = some u → σ1.lookup x = some u) → Turn C n env target body v σ H σ' H'
section
variable {C : Ct} {n : Nat} {env : Env} {σ σ' σ1 : Loc} {H H' H0 H1 H2 H3 : List HObj} {pos p pos' tpos : Pos} {k : Nat} {x y : Str} {v v1 v2 v3 : V} {e e1 e2 e3 : PySem.Expr} {o : Out} {es : List PySem.Expr} {vs : List V} {a b : Int}
theorem Typ.str : Typ C H (.str x) "str" := fun w y q_ r => by obtain ⟨_, rfl⟩ := r.inv; exact ⟨typeIs_str _ _ _, fun q_ e => nomatch e⟩
theorem Typ.lst {u : V} {l : List V} (h : Lsy H u l) : Typ C H u "list" := fun w y B r => by
 obtain ⟨q, vs, m, rfl, e1, _⟩ := h.isL B r
 exact ⟨⟨_, e1, rfl⟩, fun a e => by cases e; exact ⟨_, e1, rfl⟩⟩
theorem Fo.run {target : PySem.Expr} {body : List PySem.Stmt} {Ok : List HObj → Prop} {l : List V} (S : Nat → Loc) (G : Nat → List HObj) (hok : ∀ i, i ≤ l.length → Ok (G i))
  (turn : ∀ i v, l[i]? = some v → Turn C n env target body v (S i) (G i) (S (i + 1)) (G (i + 1))) : ∀ {j : Nat} {m : List V}, l.drop j = m → j ≤ l.length → Fo C n env target body Ok m (S j) (G j) (.next (S l.length) (G l.length)) := by
 intro j m
 induction m generalizing j with
 | nil =>
  intro h hj
  have : j = l.length := by
   have := congrArg List.length h
   simp at this; lia
  subst this
  exact Fo.nil (hok _ (Nat.le_refl _))
 | cons v m ih =>
  intro h hj
  obtain ⟨h1, h2⟩ := drop_cons h
  have hlt : j < l.length := (List.getElem?_eq_some_iff.mp h1).1
  obtain ⟨ha, hb, hs⟩ := turn j v h1
  exact Fo.cons (hok j hj) ha hb (Fo.weak hs (ih h2 hlt))
theorem Fo.runs {target : PySem.Expr} {body : List PySem.Stmt} {Ok : List HObj → Prop} {l : List V} (S : Nat → Loc) (G : Nat → List HObj) (hS : ∀ x u, (S 0).lookup x = some u → σ.lookup x = some u) (hG : G 0 = H) (hok : ∀ i, i ≤ l.length → Ok (G i))
  (turn : ∀ i v, l[i]? = some v → Turn C n env target body v (S i) (G i) (S (i + 1)) (G (i + 1))) : Fo C n env target body Ok l σ H (.next (S l.length) (G l.length)) := by
 subst hG
 exact Fo.weak hS (Fo.run S G hok turn rfl (Nat.zero_le _))
theorem Co.map {target elt : PySem.Expr} {cenv : Env} {α : Type} {f g : α → V} {l : List α} (h : ∀ a ∈ l, ∃ σ0, (∀ K, Ast C n cenv [cenv.locals] target (f a) σ (H ++ K) σ0) ∧ (∀ K, Ev C n cenv σ0 (H ++ K) elt (H ++ K) (g a)) ∧ (g a).dat = true ∧ (∀ x v, σ.lookup x = some v → σ0.lookup x = some v)) :
  Co C n cenv target [] elt σ H (l.map f) (l.map g) := by
 induction l with
 | nil => exact .nil
 | cons a l ih =>
  obtain ⟨σ0, h1, h2, h3, h4⟩ := h a (.head _)
  exact .cons h1 (fun K A w Q E R B F Kk => wpAny_tests_nil (Kk w (Step.refl _ _) B F)) h2 h3 h4 (ih fun b m => h b (.tail _ m))
theorem TstL.nil : TstL C n env σ H [] true := fun q_ w q_ q_ q_ B F K => wpAny_tests_nil (K w (Step.refl _ _) B F)
theorem TstL.one {b : Bool} (h : Tst C n env σ H e H b) : TstL C n env σ H [e] b := fun A w Q E R B F K => wpAny_tests_one (h A w Q E R B F fun w' S B' F' => K w' S B' F')
theorem Co.pick {target elt : PySem.Expr} {ifs : List PySem.Expr} {cenv : Env} {α : Type} {f g : α → V} {p : α → Bool} {l : List α}
  (h : ∀ a ∈ l, ∃ σ0, (∀ K, Ast C n cenv [cenv.locals] target (f a) σ (H ++ K) σ0) ∧ (∀ K, TstL C n cenv σ0 (H ++ K) ifs (p a)) ∧ (p a = true → (∀ K, Ev C n cenv σ0 (H ++ K) elt (H ++ K) (g a)) ∧ (g a).dat = true) ∧ (∀ x v, σ.lookup x = some v → σ0.lookup x = some v)) :
  Co C n cenv target ifs elt σ H (l.map f) ((l.filter p).map g) := by
 induction l with
 | nil => exact .nil
 | cons a l ih =>
  obtain ⟨σ0, h1, h2, h3, h4⟩ := h a (.head _)
  have ih' := ih fun b m => h b (.tail _ m)
  rw [List.map_cons, List.filter_cons]
  cases hp : p a with
  | false =>
   rw [hp] at h2
   rw [if_neg (by decide)]
   exact .skip h1 h2 h4 ih'
  | true =>
   rw [hp] at h2
   rw [if_pos rfl, List.map_cons]
   exact .cons h1 h2 (h3 hp).1 (h3 hp).2 h4 ih'
theorem Mth.lower (h : x.length ≤ 100000) : Mth C n (Str.ofString "lower") (.str x) [] H H (.str (Txt.lower x)) "str" "str.lower" := ⟨F.plainAttrs_str, F.slot_str_lower, F.type_str_lower, Fn.lower h⟩
theorem Mth.upper (h : x.length ≤ 100000) : Mth C n (Str.ofString "upper") (.str x) [] H H (.str (Txt.upper x)) "str" "str.upper" := ⟨F.plainAttrs_str, F.slot_str_upper, F.type_str_upper, Fn.upper h⟩
theorem Mth.swapcase (h : x.length ≤ 100000) : Mth C n (Str.ofString "swapcase") (.str x) [] H H (.str (Txt.swapcase x)) "str" "str.swapcase" := ⟨F.plainAttrs_str, F.slot_str_swapcase, F.type_str_swapcase, Fn.swapcase h⟩
theorem Mth.split (h1 : x.length ≤ sizeLine) (h2 : (Builtin.Str.spaceWords x (x.length + 1)).length ≤ sizeLine) : Mth C n (Str.ofString "split") (.str x) [] H H (.lst ((Txt.words x).map .str)) "str" "str.split" := ⟨F.plainAttrs_str, F.slot_str_split, F.type_str_split, Fn.split h1 h2⟩
theorem Mth.join {u : V} {ns : List Str} (h : Lsy H u (ns.map .str)) (hok : (ns.map (·.length)).sum + ns.length * x.length ≤ 16777216) : Mth C n (Str.ofString "join") (.str x) [u] H H (.str (Txt.join x ns)) "str" "str.join" := ⟨F.plainAttrs_str, F.slot_str_join, F.type_str_join, Fn.join h hok⟩
theorem Mth.count {u : V} {ns : List Int} (h : Lsy H u (ns.map .int)) : Mth C n (Str.ofString "count") u [.int a] H H (.int (ns.count a)) "list" "list.count" := ⟨F.plainAttrs_list, F.slot_list_count, F.type_list_count, Fn.count h⟩
theorem Mth.index {u : V} {ns : List Str} {j : Nat} (h : Lsy H u (ns.map .str)) (hj : ns[j]? = some x) (hno : ∀ i, i < j → ns[i]? ≠ some x) (hl : ns.length < 2 ^ 60) : Mth C n (Str.ofString "index") u [.str x] H H (.int j) "list" "list.index" := ⟨F.plainAttrs_list, F.slot_list_index, F.type_list_index, Fn.index h hj hno hl⟩
theorem Mth.append {i : Nat} {l : List V} (hH : H[i]? = some (.list l)) (hd : v.dat = true) (hlen : l.length ≤ sizeLine) : Mth C n (Str.ofString "append") (.ref i) [v] H (H.set i (.list (l ++ [v]))) .none "list" "list.append" := ⟨F.plainAttrs_list, F.slot_list_append, F.type_list_append, Fn.append hH hd hlen⟩
theorem Mth.insert {i j : Nat} {l : List V} (hH : H[i]? = some (.list l)) (hd : v.dat = true) (hj : j ≤ l.length) (hlen : l.length ≤ sizeLine) : Mth C n (Str.ofString "insert") (.ref i) [.int j, v] H (H.set i (.list (l.take j ++ v :: l.drop j))) .none "list" "list.insert" := ⟨F.plainAttrs_list, F.slot_list_insert, F.type_list_insert, Fn.insert hH hd hj hlen⟩
end
end
section
open PySem.Float64
set_option exponentiation.threshold 3000
noncomputable def fl (p : Int) : UInt64 := ofFrac (decide (p < 0)) p.natAbs (2 ^ 30)
theorem V_inj {t t' : Nat} (h : Float64.V t = Float64.V t') : t = t' := by
 rcases Nat.lt_trichotomy t t' with q | q | q
 ·have := V_lt q; lia
 ·exact q
 ·have := V_lt q; lia
theorem V_last : Float64.V (infMag - 1) = (2 ^ 53 - 1) * 2 ^ 2045 := by
 have h : infMag - 1 = 2045 * 2 ^ 52 + (2 ^ 53 - 1) := by decide
 rw [h]; exact V_at (by decide) (.inl (by decide))
theorem dist_self (a : Nat) : Float64.dist a a = 0 := by unfold Float64.dist; lia
theorem dist_zero {a b : Nat} (h : Float64.dist a b = 0) : a = b := by unfold Float64.dist at h; lia
theorem right_exact {r : UInt64} {neg : Bool} {W D t : Nat} (h : Right r neg W D) (hD : 0 < D) (hW : W = D * Float64.V t) (ht : t < infMag) : r = pack neg t := by
 obtain ⟨t0, hr, hle, hov, hnear⟩ := h
 have hlt : t0 < infMag := by
  rcases Nat.lt_or_ge t0 infMag with q | q
  ·exact q
  ·have e : t0 = infMag := Nat.le_antisymm hle q
   have h1 := hov.mp e
   have h2 : Float64.V t ≤ (2 ^ 53 - 1) * 2 ^ 2045 := by rw [← V_last]; exact V_mono (by exact Nat.le_of_lt_succ (by assumption))
   rw [hW] at h1
   have h3 : D * ((2 ^ 54 - 1) * 2 ^ 2045) ≤ D * (2 * ((2 ^ 53 - 1) * 2 ^ 2045)) := Nat.le_trans h1 (by rw [Nat.mul_left_comm]; exact Nat.mul_le_mul_left _ (Nat.mul_le_mul_left _ h2))
   have h4 := Nat.le_of_mul_le_mul_left h3 hD
   rw [← Nat.mul_assoc] at h4
   have h5 := Nat.le_of_mul_le_mul_right h4 (Nat.two_pow_pos _)
   exact absurd h5 (by decide)
 have h1 := (hnear hlt t).1
 rw [hW, dist_self] at h1
 have h2 := dist_zero (Nat.le_zero.mp h1)
 have h3 := V_inj (Nat.eq_of_mul_eq_mul_left hD h2)
 rw [hr, h3]
theorem V_some {n : Nat} (h : n < 2 ^ 53) : ∃ t, t < infMag ∧ Float64.V t = n * 2 ^ 1044 := by
 by_cases h0 : n = 0
 ·subst h0; exact ⟨0, by decide, by rw [V_zero, Nat.zero_mul]⟩
 ·have hl : n.log2 ≤ 52 := by have := (Nat.log2_lt h0).mpr h; exact Nat.le_of_lt_succ (by assumption)
  have e1 : 2 ^ n.log2 ≤ n := Nat.log2_self_le h0
  have e2 : n < 2 ^ (n.log2 + 1) := Nat.lt_log2_self
  have e3 : n * 2 ^ (52 - n.log2) < 2 ^ 53 := by
   have : 2 ^ (n.log2 + 1) * 2 ^ (52 - n.log2) = 2 ^ 53 := by rw [← Nat.pow_add]; congr 1; lia
   rw [← this]; exact Nat.mul_lt_mul_of_pos_right e2 (Nat.two_pow_pos _)
  have e4 : 2 ^ 52 ≤ n * 2 ^ (52 - n.log2) := by
   have : 2 ^ n.log2 * 2 ^ (52 - n.log2) = 2 ^ 52 := by rw [← Nat.pow_add]; congr 1; lia
   rw [← this]; exact Nat.mul_le_mul_right _ e1
  refine ⟨(992 + n.log2) * 2 ^ 52 + n * 2 ^ (52 - n.log2), ?_, ?_⟩
  ·have : infMag = 2047 * 2 ^ 52 := rfl
   lia
  ·rw [V_at (Nat.le_of_lt e3) (.inl e4), Nat.mul_assoc, ← Nat.pow_add]
   congr 2; lia
theorem fl_pack {p : Int} (h : p.natAbs < 2 ^ 53) : ∃ t, t < infMag ∧ Float64.V t = p.natAbs * 2 ^ 1044 ∧ fl p = pack (decide (p < 0)) t := by
 obtain ⟨t, h1, h2⟩ := V_some h
 refine ⟨t, h1, h2, ?_⟩
 have hR : Right (fl p) (decide (p < 0)) (p.natAbs * 2 ^ 1044) 1 := ofFrac_right (by decide) (by rw [Nat.mul_one, Nat.mul_assoc, ← Nat.pow_add]) (by decide)
 exact right_exact hR (by decide) (by rw [Nat.one_mul]; exact h2.symm) h1
theorem is_fl {r : UInt64} {neg : Bool} {W D : Nat} {q : Int} (h : Right r neg W D) (hD : 0 < D) (hW : W = D * (q.natAbs * 2 ^ 1044)) (hn : neg = decide (q < 0)) (hq : q.natAbs < 2 ^ 53) : r = fl q := by
 obtain ⟨t, h1, h2, h3⟩ := fl_pack hq
 rw [h3, ← hn]
 exact right_exact h hD (by rw [h2]; exact hW) h1
theorem pow_cast (n : Nat) : ((2 ^ n : Nat) : Int) = (2 : Int) ^ n := by simp
theorem natAbs_val {p : Int} : (p * 2 ^ 1044).natAbs = p.natAbs * 2 ^ 1044 := by
 rw [Int.natAbs_mul, ← pow_cast, Int.natAbs_natCast]
theorem sgn_abs (p : Int) (k : Nat) : sgn (decide (p < 0)) (p.natAbs * k) = p * (k : Int) := by
 unfold sgn
 by_cases h : p < 0
 ·rw [decide_eq_true h, if_pos rfl, Int.natCast_mul, ← Int.neg_mul]
  congr 1; omega
 ·rw [decide_eq_false h]
  simp only [Bool.false_eq_true, if_false, Int.natCast_mul]
  congr 1; lia
theorem fl_dec {p : Int} (h : p.natAbs < 2 ^ 53) : ∃ m e, decode (fl p) = .fin (decide (p < 0)) m e ∧ m * 2 ^ (e + 1074).toNat = p.natAbs * 2 ^ 1044 ∧ val (fl p) = p * 2 ^ 1044 ∧ -1074 ≤ e := by
 obtain ⟨t, h1, h2, h3⟩ := fl_pack h
 obtain ⟨m, e, hd, hm⟩ := decode_pack (decide (p < 0)) h1
 rw [h3]
 refine ⟨m, e, hd, hm.trans h2, ?_, decode_ge hd⟩
 rw [val_pack _ h1, h2, sgn_abs, pow_cast]
theorem fl_add {p q : Int} (hp : p.natAbs < 2 ^ 53) (hq : q.natAbs < 2 ^ 53) (hr : (p + q).natAbs < 2 ^ 53) : add (fl p) (fl q) = fl (p + q) := by
 obtain ⟨m, e, hd, _, hv, _⟩ := fl_dec hp
 obtain ⟨k, f, hd', _, hv', _⟩ := fl_dec hq
 obtain ⟨h0, h1⟩ := add_right hd hd'
 have hs : val (fl p) + val (fl q) = (p + q) * 2 ^ 1044 := by rw [hv, hv', Int.add_mul]
 have hpos : (0 : Int) < 2 ^ 1044 := by rw [← pow_cast]; exact Int.ofNat_lt.mpr (Nat.two_pow_pos _)
 by_cases h : p + q = 0
 ·rw [h0 (by rw [hs, h, Int.zero_mul]), h]
  have : (decide (p < 0) && decide (q < 0)) = false := by
   rw [Bool.and_eq_false_iff, decide_eq_false_iff_not, decide_eq_false_iff_not]; lia
  rw [this]; decide +kernel
 ·have hn : val (fl p) + val (fl q) ≠ 0 := by
   rw [hs]; intro z
   rcases Int.mul_eq_zero.mp z with z | z
   ·exact h z
   ·lia
  refine is_fl (h1 hn) (by decide) ?_ ?_ hr
  ·rw [hs, natAbs_val, Nat.one_mul]
  ·rw [hs]
   apply decide_eq_decide.mpr
   constructor
   ·intro z
    rcases Int.lt_or_le (p + q) 0 with y | y
    ·exact y
    ·have := Int.mul_nonneg y (Int.le_of_lt hpos); lia
   ·intro z; exact Int.mul_neg_of_neg_of_pos z hpos
theorem fl_sub {p q : Int} (hp : p.natAbs < 2 ^ 53) (hq : q.natAbs < 2 ^ 53) (hr : (p - q).natAbs < 2 ^ 53) : sub (fl p) (fl q) = fl (p - q) := by
 obtain ⟨m, e, hd, _, hv, _⟩ := fl_dec hp
 obtain ⟨k, f, hd', _, hv', _⟩ := fl_dec hq
 obtain ⟨h0, h1⟩ := sub_right hd hd'
 have hs : val (fl p) - val (fl q) = (p - q) * 2 ^ 1044 := by rw [hv, hv', Int.sub_mul]
 have hpos : (0 : Int) < 2 ^ 1044 := by rw [← pow_cast]; exact Int.ofNat_lt.mpr (Nat.two_pow_pos _)
 by_cases h : p - q = 0
 ·rw [h0 (by rw [hs, h, Int.zero_mul]), h]
  have : (decide (p < 0) && !decide (q < 0)) = false := by
   rw [Bool.and_eq_false_iff, decide_eq_false_iff_not, Bool.not_eq_false', decide_eq_true_iff]; lia
  rw [this]; decide +kernel
 ·have hn : val (fl p) - val (fl q) ≠ 0 := by
   rw [hs]; intro z
   rcases Int.mul_eq_zero.mp z with z | z
   ·exact h z
   ·omega
  refine is_fl (h1 hn) (by decide) ?_ ?_ hr
  ·rw [hs, natAbs_val, Nat.one_mul]
  ·rw [hs]
   apply decide_eq_decide.mpr
   constructor
   ·intro z
    rcases Int.lt_or_le (p - q) 0 with y | y
    ·exact y
    ·have := Int.mul_nonneg y (Int.le_of_lt hpos); lia
   ·intro z; exact Int.mul_neg_of_neg_of_pos z hpos
theorem fl_mul {p q r : Int} (hp : p.natAbs < 2 ^ 53) (hq : q.natAbs < 2 ^ 53) (hr : r.natAbs < 2 ^ 53) (p0 : 0 ≤ p) (q0 : 0 ≤ q) (h : p * q = r * 2 ^ 30) : mul (fl p) (fl q) = fl r := by
 obtain ⟨m, e, hd, _, hv, _⟩ := fl_dec hp
 obtain ⟨k, f, hd', _, hv', _⟩ := fl_dec hq
 have r0 : 0 ≤ r := by
  rcases Int.lt_or_le r 0 with z | z
  ·have := Int.mul_nonneg p0 q0; lia
  ·exact z
 refine is_fl (mul_right hd hd') (Nat.two_pow_pos _) ?_ ?_ hr
 ·rw [hv, hv', natAbs_val, natAbs_val]
  have h' : p.natAbs * q.natAbs = r.natAbs * 2 ^ 30 := by
   have := congrArg Int.natAbs h
   rw [Int.natAbs_mul, Int.natAbs_mul] at this; exact this
  calc p.natAbs * 2 ^ 1044 * (q.natAbs * 2 ^ 1044) = p.natAbs * q.natAbs * (2 ^ 1044 * 2 ^ 1044) := by generalize (2 : Nat) ^ 1044 = K; ac_rfl
   _ = r.natAbs * (2 ^ 30 * (2 ^ 1044 * 2 ^ 1044)) := by rw [h', Nat.mul_assoc]
   _ = 2 ^ 1074 * (r.natAbs * 2 ^ 1044) := by
    rw [show (2 : Nat) ^ 1074 = 2 ^ 30 * 2 ^ 1044 from by rw [← Nat.pow_add]]
    generalize (2 : Nat) ^ 1044 = K; generalize (2 : Nat) ^ 30 = L; ac_rfl
 ·rw [decide_eq_false (by lia), decide_eq_false (by lia), decide_eq_false (by lia)]; rfl
theorem fl_div {p q r : Int} (hp : p.natAbs < 2 ^ 53) (hq : q.natAbs < 2 ^ 53) (hr : r.natAbs < 2 ^ 53) (q0 : 0 < q) (h : p * 2 ^ 30 = r * q) : div (fl p) (fl q) = fl r := by
 obtain ⟨m, e, hd, _, hv, _⟩ := fl_dec hp
 obtain ⟨k, f, hd', hm', hv', _⟩ := fl_dec hq
 have hk : k ≠ 0 := by
  intro z; rw [z, Nat.zero_mul] at hm'
  have : 0 < q.natAbs * 2 ^ 1044 := Nat.mul_pos (by lia) (Nat.two_pow_pos _)
  lia
 refine is_fl (div_right hd hd' hk) ?_ ?_ ?_ hr
 ·rw [hv', natAbs_val]; exact Nat.mul_pos (by lia) (Nat.two_pow_pos _)
 ·rw [hv, hv', natAbs_val, natAbs_val]
  have h' : p.natAbs * 2 ^ 30 = r.natAbs * q.natAbs := by
   have := congrArg Int.natAbs h
   rw [Int.natAbs_mul, Int.natAbs_mul] at this; exact this
  calc p.natAbs * 2 ^ 1044 * 2 ^ 1074
   _ = p.natAbs * 2 ^ 30 * (2 ^ 1044 * 2 ^ 1044) := by
     rw [show (2 : Nat) ^ 1074 = 2 ^ 30 * 2 ^ 1044 from by rw [← Nat.pow_add]]
     generalize (2 : Nat) ^ 1044 = K; generalize (2 : Nat) ^ 30 = L; ac_rfl
   _ = q.natAbs * 2 ^ 1044 * (r.natAbs * 2 ^ 1044) := by rw [h']; generalize (2 : Nat) ^ 1044 = K; ac_rfl
 ·rw [decide_eq_false (p := q < 0) (by lia)]
  have : (decide (p < 0) != false) = decide (p < 0) := by cases decide (p < 0) <;> rfl
  rw [this]
  apply decide_eq_decide.mpr
  constructor
  ·intro z
   rcases Int.lt_or_le r 0 with y | y
   ·exact y
   ·have := Int.mul_nonneg y (Int.le_of_lt q0); lia
  ·intro z
   have := Int.mul_neg_of_neg_of_pos z q0; lia
theorem fl_cmp {p q : Int} (hp : p.natAbs < 2 ^ 53) (hq : q.natAbs < 2 ^ 53) : cmp (fl p) (fl q) = some (compare p q) := by
 obtain ⟨m, e, hd, _, hv, _⟩ := fl_dec hp
 obtain ⟨k, f, hd', _, hv', _⟩ := fl_dec hq
 rw [cmp_right hd hd', hv, hv']
 have hK : (0 : Int) < 2 ^ 1044 := by rw [← pow_cast]; exact Int.ofNat_lt.mpr (Nat.two_pow_pos _)
 generalize (2 : Int) ^ 1044 = K at hK
 congr 1
 rcases Int.lt_trichotomy p q with h | h | h
 ·rw [Int.compare_eq_lt.mpr h, Int.compare_eq_lt.mpr (Int.mul_lt_mul_of_pos_right h hK)]
 ·subst h; simp
 ·rw [Int.compare_eq_gt.mpr h, Int.compare_eq_gt.mpr (Int.mul_lt_mul_of_pos_right h hK)]
theorem fl_cmpInt {p i : Int} (hp : p.natAbs < 2 ^ 53) : cmpInt (fl p) i = some (compare p (i * 2 ^ 30)) := by
 obtain ⟨m, e, hd, _, hv, _⟩ := fl_dec hp
 rw [cmpInt_right hd, hv]
 have e1 : i * 2 ^ 1074 = i * 2 ^ 30 * 2 ^ 1044 := by rw [Int.mul_assoc, ← Int.pow_add]
 rw [e1]
 have hK : (0 : Int) < 2 ^ 1044 := by rw [← pow_cast]; exact Int.ofNat_lt.mpr (Nat.two_pow_pos _)
 generalize (2 : Int) ^ 1044 = K at hK
 generalize i * 2 ^ 30 = q
 congr 1
 rcases Int.lt_trichotomy p q with h | h | h
 ·rw [Int.compare_eq_lt.mpr h, Int.compare_eq_lt.mpr (Int.mul_lt_mul_of_pos_right h hK)]
 ·subst h; simp
 ·rw [Int.compare_eq_gt.mpr h, Int.compare_eq_gt.mpr (Int.mul_lt_mul_of_pos_right h hK)]
theorem fl_ofInt {i : Int} (h : (i * 2 ^ 30).natAbs < 2 ^ 53) : ofInt i = fl (i * 2 ^ 30) := by
 refine is_fl (ofInt_right i) (by decide) ?_ ?_ h
 ·rw [Nat.one_mul, Int.natAbs_mul, show ((2 : Int) ^ 30).natAbs = 2 ^ 30 from rfl, Nat.mul_assoc, ← Nat.pow_add]
 ·apply decide_eq_decide.mpr; lia
theorem fl_isZero {p : Int} (hp : p.natAbs < 2 ^ 53) : isZero (fl p) = decide (p = 0) := by
 rw [PySem.Flt.isZero_eq, fl_cmpInt hp, Int.zero_mul]
 rcases Int.lt_trichotomy p 0 with h | h | h
 ·rw [Int.compare_eq_lt.mpr h, decide_eq_false (by lia)]; rfl
 ·subst h; rfl
 ·rw [Int.compare_eq_gt.mpr h, decide_eq_false (by lia)]; rfl
set_option tactic.hygienic true in
theorem fl_trunc {p : Int} (hp : p.natAbs < 2 ^ 53) (p0 : 0 ≤ p) : ∃ m e, decode (fl p) = .fin false m e ∧ truncOf false m e = p / 2 ^ 30 := by
 obtain ⟨m, e, hd, hm, _, he⟩ := fl_dec hp
 rw [decide_eq_false (by lia : ¬ p < 0)] at hd
 refine ⟨m, e, hd, ?_⟩
 have hpn : (p.natAbs : Int) = p := by lia
 have : (m * 2 ^ e.toNat : Nat) / 2 ^ (-e).toNat = p.natAbs / 2 ^ 30 := by
  have h1 : m * 2 ^ e.toNat * 2 ^ 30 * 2 ^ 1044 = p.natAbs * 2 ^ (-e).toNat * 2 ^ 1044 := by
   have : m * 2 ^ e.toNat * 2 ^ 30 * 2 ^ 1044 = m * 2 ^ (e + 1074).toNat * 2 ^ (-e).toNat := by
    rw [Nat.mul_assoc, Nat.mul_assoc, Nat.mul_assoc, ← Nat.pow_add, ← Nat.pow_add, ← Nat.pow_add]
    congr 2; lia
   rw [this, hm]; generalize (2 : Nat) ^ 1044 = K; ac_rfl
  have h2 := Nat.eq_of_mul_eq_mul_right (Nat.two_pow_pos _) h1
  rw [← Nat.mul_div_mul_right (m * 2 ^ e.toNat) (2 ^ (-e).toNat) (Nat.two_pow_pos 30), h2, Nat.mul_comm (2 ^ (-e).toNat) (2 ^ 30), Nat.mul_div_mul_right _ _ (Nat.two_pow_pos _)]
 have h3 : (p / 2 ^ 30 : Int) = ((p.natAbs / 2 ^ 30 : Nat) : Int) := by lia
 rw [h3, ← this]
 show floorOf false m e = _
 unfold floorOf
 have hs : sgn false m = (m : Int) := rfl
 rw [hs]
 split
 ·rename_i h
  have h0 : (-e).toNat = 0 := by lia
  rw [h0, Nat.pow_zero, Nat.div_one, Int.natCast_mul, pow_cast]
 ·rename_i h
  have h0 : e.toNat = 0 := by lia
  rw [h0, Nat.pow_zero, Nat.mul_one, ← pow_cast, Int.natCast_ediv]
  exact Int.fdiv_eq_ediv_of_nonneg _ (Int.natCast_nonneg _)
theorem one_fl : one = fl (2 ^ 30) := by decide +kernel
theorem exp_split (m : Nat) {e g : Int} (h : -1074 ≤ g) (k : g ≤ e) : m * 2 ^ (e + 1074).toNat = m * 2 ^ (e - g).toNat * 2 ^ (g + 1074).toNat := by
 rw [Nat.mul_assoc, ← Nat.pow_add, ← Int.toNat_add (Int.sub_nonneg.mpr k) (Int.add_le_add_right h 1074), ← Int.add_assoc, Int.sub_add_cancel]
theorem fmod_right {x y : UInt64} {a b : Bool} {m k : Nat} {e f : Int} (hx : decode x = .fin a m e) (hy : decode y = .fin b k f) (hk : k ≠ 0) : Right (fmod x y) a ((val x).natAbs % (val y).natAbs) 1 := by
 have he := decode_ge hx
 have hf := decode_ge hy
 have h : fmod x y = ofBin a ((m * 2 ^ (e - min e f).toNat) % (k * 2 ^ (f - min e f).toNat)) (min e f) := by
  unfold fmod
  rw [hx, hy]
  simp only
  rw [if_neg (by simpa using hk)]
  rfl
 rw [h, val_natAbs hx, val_natAbs hy]
 have hg : -1074 ≤ min e f := Int.le_min.mpr ⟨he, hf⟩
 have e1 := exp_split m hg (Int.min_le_left e f)
 have e2 := exp_split k hg (Int.min_le_right e f)
 rw [e1, e2, Nat.mul_mod_mul_right]
 unfold ofBin
 refine ofFrac_right (shift_pos _ _ _ (by decide)) ?_ (by decide)
 have := shift_one ((m * 2 ^ (e - min e f).toNat) % (k * 2 ^ (f - min e f).toNat)) (min e f) 1074 hg
 rw [Nat.mul_one]
 exact this
theorem fl_neg0 {r : UInt64} {neg : Bool} (h : Right r neg 0 1) : r = pack neg 0 := right_exact h (by decide) (by rw [V_zero]) (by decide)
theorem mod_neg {n r : Nat} (h : n % 2 ^ 30 = r) (h0 : r ≠ 0) : -(r : Int) + 2 ^ 30 = -(n : Int) % 2 ^ 30 := by omega
theorem neg_lt_zero {n : Nat} (h : n ≠ 0) : -(n : Int) < 0 := Int.neg_neg_of_pos (Int.natCast_pos.mpr (Nat.pos_of_ne_zero h))
theorem mod_part (p : Int) (h0 : p.natAbs % 2 ^ 30 ≠ 0) : ∃ q : Int, q.natAbs = p.natAbs % 2 ^ 30 ∧ decide (p < 0) = decide (q < 0) ∧ (q < 0 → q + 2 ^ 30 = p % 2 ^ 30) ∧ (¬ q < 0 → q = p % 2 ^ 30) := by
 obtain ⟨n, rfl | rfl⟩ := Int.eq_nat_or_neg p
 ·rw [Int.natAbs_natCast]
  have h1 : ¬ ((n : Nat) : Int) < 0 := Int.not_lt.mpr (Int.natCast_nonneg n)
  have h2 : ¬ ((n % 2 ^ 30 : Nat) : Int) < 0 := Int.not_lt.mpr (Int.natCast_nonneg _)
  exact ⟨((n % 2 ^ 30 : Nat) : Int), Int.natAbs_natCast _, by rw [decide_eq_false h1, decide_eq_false h2], fun h => absurd h h2, fun q_ => rfl⟩
 ·rw [Int.natAbs_neg, Int.natAbs_natCast] at h0 ⊢
  have h1 : -(n : Int) < 0 := neg_lt_zero fun e => h0 (by rw [e])
  have h2 := neg_lt_zero h0
  exact ⟨-((n % 2 ^ 30 : Nat) : Int), by rw [Int.natAbs_neg, Int.natAbs_natCast], by rw [decide_eq_true h1, decide_eq_true h2], fun q_ => mod_neg rfl h0, fun h => absurd h2 h⟩
theorem mod_small (p : Int) : (p % 2 ^ 30).natAbs < 2 ^ 53 := by omega
theorem mod_zero {p : Int} (h : p.natAbs % 2 ^ 30 = 0) : p % 2 ^ 30 = 0 := Int.emod_eq_zero_of_dvd (Int.natAbs_dvd_natAbs.mp (Nat.dvd_of_mod_eq_zero h))
theorem fl_mod1 {p : Int} (hp : p.natAbs < 2 ^ 53) : (divmod (fl p) one).2 = fl (p % 2 ^ 30) := by
 obtain ⟨m, e, hd, _, hv, _⟩ := fl_dec hp
 have h1 : ((2 : Int) ^ 30).natAbs < 2 ^ 53 := by decide
 obtain ⟨k, f, hd', hm', hv', _⟩ := fl_dec h1
 have hk : k ≠ 0 := by
  intro z; rw [z, Nat.zero_mul] at hm'
  have : 0 < ((2 : Int) ^ 30).natAbs * 2 ^ 1044 := Nat.mul_pos (by decide) (Nat.two_pow_pos _)
  lia
 have hR := fmod_right hd hd' hk
 rw [hv, hv', natAbs_val, natAbs_val, Nat.mul_mod_mul_right, ← one_fl] at hR
 have e30 : ((2 : Int) ^ 30).natAbs = 2 ^ 30 := by decide
 rw [e30] at hR
 have key : (divmod (fl p) one).2 = (if isZero (fmod (fl p) one) then copysign (zero false) one else if lt one (zero false) != lt (fmod (fl p) one) (zero false) then add (fmod (fl p) one) one else fmod (fl p) one) := by
  unfold divmod
  dsimp only
  split
  ·rfl
  ·split <;> rfl
 rw [key]
 by_cases h0 : p.natAbs % 2 ^ 30 = 0
 ·rw [h0, Nat.zero_mul] at hR
  rw [fl_neg0 hR]
  rw [mod_zero h0]
  generalize decide (p < 0) = b
  cases b <;> decide +kernel
 ·obtain ⟨q, qa, qd, qn, qp⟩ := mod_part p h0
  have q1 : q.natAbs < 2 ^ 53 := qa ▸ Nat.lt_trans (Nat.mod_lt _ (Nat.two_pow_pos 30)) (by decide)
  have q2 : q ≠ 0 := fun e => h0 (by rw [← qa, e]; rfl)
  have hm : fmod (fl p) one = fl q := is_fl hR (by decide) (by rw [Nat.one_mul, qa]) qd q1
  have hz : zero false = fl 0 := by decide +kernel
  rw [hm, fl_isZero q1, decide_eq_false q2, if_neg Bool.false_ne_true]
  have l1 : lt one (zero false) = false := by decide +kernel
  have l2 : lt (fl q) (zero false) = decide (q < 0) := by
   show (cmp (fl q) (zero false) == some .lt) = _
   rw [hz, fl_cmp q1 (by decide)]
   rcases Int.lt_or_gt_of_ne q2 with h | h
   ·rw [Int.compare_eq_lt.mpr h, decide_eq_true h]; rfl
   ·rw [Int.compare_eq_gt.mpr h, decide_eq_false (Int.not_lt.mpr (Int.le_of_lt h))]; rfl
  rw [l1, l2]
  by_cases hn : q < 0
  ·have e := qn hn
   have f : (q + 2 ^ 30).natAbs < 2 ^ 53 := by rw [e]; exact mod_small p
   rw [decide_eq_true hn, if_pos (by decide), one_fl, fl_add q1 h1 f, e]
  ·rw [decide_eq_false hn, if_neg (by decide), qp hn]
end
section
set_option exponentiation.threshold 3000
noncomputable abbrev Fits (p : Int) : Prop := p.natAbs < 2 ^ 53
section
variable {C : Ct} {n : Nat} {env : Env} {σ σ' σ1 : Loc} {H H' H0 H1 H2 H3 : List HObj} {pos p0 pos' tpos : Pos} {k : Nat} {x y : Str} {v v1 v2 v3 : V} {e e1 e2 e3 : PySem.Expr} {o : Out} {p q r i j : Int} {a b : UInt64}
theorem tok_ne {w : Wd} (ht : C.tp) (B : BSt C w H) : w.s.toks ≠ 0 := Nat.ne_of_gt (B.tok ht)
theorem Ev.fl {i : UInt64} {p : Int} (h : i = fl p) (ht : C.tp := by trivial) : Ev C n env σ H (.Constant (.float i) k pos) H (.flt (fl p)) := h ▸ Ev.flt ht
theorem Bin.addF (hp : Fits p) (hq : Fits q) (hr : Fits (p + q)) (ht : C.tp := by trivial) : Bin C n .Add (.flt (fl p)) (.flt (fl q)) H H (.flt (fl (p + q))) := by
 intro A w Q E x y R B rx ry K
 obtain ⟨_, rfl, _⟩ := rx.inv; obtain ⟨_, rfl, _⟩ := ry.inv
 exact add_float (by rw [fl_add hp hq hr]; exact K ⟨w.ρ, w.π, _⟩ _ Ext.toks.step (B.ext Ext.toks) (.flt _ _ (tok_ne ht B)))
theorem Bin.subF (hp : Fits p) (hq : Fits q) (hr : Fits (p - q)) (ht : C.tp := by trivial) : Bin C n .Sub (.flt (fl p)) (.flt (fl q)) H H (.flt (fl (p - q))) := by
 intro A w Q E x y R B rx ry K
 obtain ⟨_, rfl, _⟩ := rx.inv; obtain ⟨_, rfl, _⟩ := ry.inv
 exact sub_float (by rw [fl_sub hp hq hr]; exact K ⟨w.ρ, w.π, _⟩ _ Ext.toks.step (B.ext Ext.toks) (.flt _ _ (tok_ne ht B)))
theorem Bin.mulF (hp : Fits p) (hq : Fits q) (hr : Fits r) (p0 : 0 ≤ p) (q0 : 0 ≤ q) (h : p * q = r * 2 ^ 30) (ht : C.tp := by trivial) : Bin C n .Mult (.flt (fl p)) (.flt (fl q)) H H (.flt (fl r)) := by
 intro A w Q E x y R B rx ry K
 obtain ⟨_, rfl, _⟩ := rx.inv; obtain ⟨_, rfl, _⟩ := ry.inv
 exact mul_float (by rw [fl_mul hp hq hr p0 q0 h]; exact K ⟨w.ρ, w.π, _⟩ _ Ext.toks.step (B.ext Ext.toks) (.flt _ _ (tok_ne ht B)))
theorem Bin.divR (hb : Float64.isZero b = false) (ht : C.tp := by trivial) : Bin C n .Div (.flt a) (.flt b) H H (.flt (Float64.div a b)) := by
 intro A w Q E x y R B rx ry K
 obtain ⟨_, rfl, _⟩ := rx.inv; obtain ⟨_, rfl, _⟩ := ry.inv
 exact AutoFloatOps.truediv_1 (by rw [hb]; decide) (K ⟨w.ρ, w.π, _⟩ _ Ext.toks.step (B.ext Ext.toks) (.flt _ _ (tok_ne ht B)))
theorem Bin.divF (hp : Fits p) (hq : Fits q) (hr : Fits r) (q0 : 0 < q) (h : p * 2 ^ 30 = r * q) (ht : C.tp := by trivial) : Bin C n .Div (.flt (fl p)) (.flt (fl q)) H H (.flt (fl r)) := by
 have := Bin.divR (C := C) (n := n) (H := H) (a := fl p) (b := fl q) (by rw [fl_isZero hq]; exact decide_eq_false (by lia)) ht
 rwa [fl_div hp hq hr q0 h] at this
theorem Bin.modF (hp : Fits p) (ht : C.tp := by trivial) : Bin C n .Mod (.flt (fl p)) (.flt (fl (2 ^ 30))) H H (.flt (fl (p % 2 ^ 30))) := by
 intro A w Q E x y R B rx ry K
 obtain ⟨_, rfl, _⟩ := rx.inv; obtain ⟨_, rfl, _⟩ := ry.inv
 refine AutoFloatOps.mod_1 (by rw [fl_isZero (by decide)]; decide) ?_
 rw [← one_fl, fl_mod1 hp]
 exact K ⟨w.ρ, w.π, _⟩ _ Ext.toks.step (B.ext Ext.toks) (.flt _ _ (tok_ne ht B))
theorem Bin.divII (hb : 0 < j) (hi : 0 ≤ i) (hs : i < 2 ^ 60) (ht : C.tp := by trivial) : Bin C n .Div (.int i) (.int j) H H (.flt (Float64.ofFrac false i.natAbs j.natAbs)) := by
 intro A w Q E x y R B rx ry K
 obtain ⟨_, rfl⟩ := rx.inv; obtain ⟨_, rfl⟩ := ry.inv
 have e : (decide (i < 0) != decide (j < 0)) = false := by rw [decide_eq_false (by lia), decide_eq_false (by lia)]; rfl
 refine Flt.div_ii_fits R.hd (Nat.lt_of_lt_of_le (show i.natAbs < 2 ^ 60 by lia) (Nat.pow_le_pow_right (by decide) (by decide))) (fun h => by lia) fun q_ q_ => ?_
 rw [e]
 exact K ⟨w.ρ, w.π, _⟩ _ Ext.toks.step (B.ext Ext.toks) (.flt _ _ (tok_ne ht B))
theorem ofFrac_fl (hj : 0 < j) (hi : 0 ≤ i) (hr : Fits r) (h : i * 2 ^ 30 = r * j) : Float64.ofFrac false i.natAbs j.natAbs = fl r := by
 have r0 : 0 ≤ r := by
  rcases Int.lt_or_le r 0 with z | z
  ·have := Int.mul_neg_of_neg_of_pos z hj; omega
  ·exact z
 refine is_fl (D := 1) (W := r.natAbs * 2 ^ 1044) (Float64.ofFrac_right (by omega) ?_ (by decide)) (by decide) (by rw [Nat.one_mul]) (by rw [decide_eq_false (by lia)]) hr
 have h' : i.natAbs * 2 ^ 30 = r.natAbs * j.natAbs := by
  have := congrArg Int.natAbs h
  rw [Int.natAbs_mul, Int.natAbs_mul] at this; exact this
 rw [Nat.mul_one, show (2 : Nat) ^ 1074 = 2 ^ 30 * 2 ^ 1044 from by rw [← Nat.pow_add], ← Nat.mul_assoc, h']
 generalize (2 : Nat) ^ 1044 = K; ac_rfl
theorem Bin.divIF (hb : 0 < j) (hi : 0 ≤ i) (hs : i < 2 ^ 60) (hr : Fits r) (h : i * 2 ^ 30 = r * j) (ht : C.tp := by trivial) : Bin C n .Div (.int i) (.int j) H H (.flt (fl r)) := by
 have := Bin.divII (C := C) (n := n) (H := H) hb hi hs ht
 rwa [ofFrac_fl hb hi hr h] at this
theorem over_small {i : Int} (h : i.natAbs < 2 ^ 60) : i.natAbs < 2 ^ 1023 := Nat.lt_of_lt_of_le h (Nat.pow_le_pow_right (by decide) (by decide))
theorem Bin.addFI (hp : Fits p) (hi : Fits (i * 2 ^ 30)) (hr : Fits (p + i * 2 ^ 30)) (ht : C.tp := by trivial) : Bin C n .Add (.flt (fl p)) (.int i) H H (.flt (fl (p + i * 2 ^ 30))) := by
 intro A w Q E x y R B rx ry K
 obtain ⟨_, rfl, _⟩ := rx.inv; obtain ⟨_, rfl⟩ := ry.inv
 refine add_fi_fits (over_small (by omega)) ?_
 rw [fl_ofInt hi, fl_add hp hi hr]
 exact K ⟨w.ρ, w.π, _⟩ _ Ext.toks.step (B.ext Ext.toks) (.flt _ _ (tok_ne ht B))
theorem Bin.subFI (hp : Fits p) (hi : Fits (i * 2 ^ 30)) (hr : Fits (p - i * 2 ^ 30)) (ht : C.tp := by trivial) : Bin C n .Sub (.flt (fl p)) (.int i) H H (.flt (fl (p - i * 2 ^ 30))) := by
 intro A w Q E x y R B rx ry K
 obtain ⟨_, rfl, _⟩ := rx.inv; obtain ⟨_, rfl⟩ := ry.inv
 refine sub_fi_fits (over_small (by omega)) ?_
 rw [fl_ofInt hi, fl_sub hp hi hr]
 exact K ⟨w.ρ, w.π, _⟩ _ Ext.toks.step (B.ext Ext.toks) (.flt _ _ (tok_ne ht B))
theorem cmp_lt (h1 : Fits p) (h2 : Fits q) : (Float64.cmp (fl p) (fl q) == some .lt) = decide (p < q) := by
 rw [fl_cmp h1 h2]
 rcases Int.lt_trichotomy p q with h | h | h
 ·rw [Int.compare_eq_lt.mpr h, decide_eq_true h]; rfl
 ·subst h; simp
 ·rw [Int.compare_eq_gt.mpr h, decide_eq_false (by lia)]; rfl
theorem cmp_gt (h1 : Fits p) (h2 : Fits q) : (Float64.cmp (fl p) (fl q) == some .gt) = decide (p > q) := by
 rw [fl_cmp h1 h2]
 rcases Int.lt_trichotomy p q with h | h | h
 ·rw [Int.compare_eq_lt.mpr h, decide_eq_false (by lia)]; rfl
 ·subst h; simp
 ·rw [Int.compare_eq_gt.mpr h, decide_eq_true h]; rfl
theorem cmp_eq (h1 : Fits p) (h2 : Fits q) : (Float64.cmp (fl p) (fl q) == some .eq) = decide (p = q) := by
 rw [fl_cmp h1 h2]
 rcases Int.lt_trichotomy p q with h | h | h
 ·rw [Int.compare_eq_lt.mpr h, decide_eq_false (by lia)]; rfl
 ·subst h; simp
 ·rw [Int.compare_eq_gt.mpr h, decide_eq_false (by lia)]; rfl
theorem Cmp.eqF (hp : Fits p) (hq : Fits q) : Cmp C n .Eq (.flt (fl p)) (.flt (fl q)) H (decide (p = q)) := by
 intro A w Q E x y R B rx ry K
 obtain ⟨_, rfl, _⟩ := rx.inv; obtain ⟨_, rfl, _⟩ := ry.inv
 exact AutoFloatOps.eq_0 (by rw [cmp_eq hp hq]; exact K w (Step.refl _ _) B)
theorem Cmp.ltF (hp : Fits p) (hq : Fits q) : Cmp C n .Lt (.flt (fl p)) (.flt (fl q)) H (decide (p < q)) := by
 intro A w Q E x y R B rx ry K
 obtain ⟨_, rfl, _⟩ := rx.inv; obtain ⟨_, rfl, _⟩ := ry.inv
 exact AutoFloatOps.lt_0 (by rw [cmp_lt hp hq]; exact K w (Step.refl _ _) B)
theorem Cmp.leF (hp : Fits p) (hq : Fits q) : Cmp C n .LtE (.flt (fl p)) (.flt (fl q)) H (decide (p ≤ q)) := by
 intro A w Q E x y R B rx ry K
 obtain ⟨_, rfl, _⟩ := rx.inv; obtain ⟨_, rfl, _⟩ := ry.inv
 refine AutoFloatOps.le_0 ?_
 rw [cmp_lt hp hq, cmp_eq hp hq, show (decide (p < q) || decide (p = q)) = decide (p ≤ q) by rw [← Bool.decide_or]; apply decide_eq_decide.mpr; omega]
 exact K w (Step.refl _ _) B
theorem nan_fl (hp : Fits p) : Float64.isNaN (fl p) = false := by
 rw [Flt.isNaN_eq, fl_cmpInt hp]; rfl
theorem EqV.fl {d : Nat} (hp : Fits p) : EqV C H d (.flt (Mine.fl p)) (.flt (Mine.fl p)) true := EqV.flt _ (nan_fl hp) (by rw [fl_cmp hp hp]; simp)
theorem EqV.flI {d : Nat} (hp : Fits p) : EqV C H d (.flt (Mine.fl p)) (.int i) (decide (p = i * 2 ^ 30)) := by
 have := EqV.fltInt (C := C) (H := H) (d := d) (Mine.fl p) i
 rwa [fl_cmpInt hp, show (some (compare p (i * 2 ^ 30)) == some Ordering.eq) = decide (p = i * 2 ^ 30) by
  generalize i * 2 ^ 30 = q
  rcases Int.lt_trichotomy p q with h | h | h
  ·rw [Int.compare_eq_lt.mpr h, decide_eq_false (by omega)]; rfl
  ·subst h; simp
  ·rw [Int.compare_eq_gt.mpr h, decide_eq_false (by omega)]; rfl] at this
theorem Fn.intFl (hp : Fits p) (p0 : 0 ≤ p) : Fn C n (.val (.type "int")) [.flt (fl p)] [] H H (.int (p / 2 ^ 30)) := by
 obtain ⟨m, e, h1, h2⟩ := fl_trunc hp p0
 have := Fn.intF (C := C) (n := n) (H := H) h1
 rwa [h2] at this
noncomputable def big3 (p q r : Int) : Int := max p (max q r)
noncomputable def low3 (p q r : Int) : Int := min p (min q r)
theorem Fn.max3F {p q r : Int} (hp : Fits p) (hq : Fits q) (hr : Fits r) : Fn C n (.val (.builtin "max")) [.flt (fl p), .flt (fl q), .flt (fl r)] [] H H (.flt (fl (big3 p q r))) := by
 have := Fn.max3 (C := C) (n := n) (H := H) (x := fl p) (y := fl q) (z := fl r)
 have g1 : ∀ {p q : Int}, Fits p → Fits q → gtF (fl p) (fl q) = decide (p > q) := fun a b => cmp_gt a b
 have e : fltAt [fl p, fl q, fl r] (argBest (fun i j => gtF (fltAt [fl p, fl q, fl r] i) (fltAt [fl p, fl q, fl r] j)) 2) = fl (big3 p q r) := by
  show fltAt [fl p, fl q, fl r] (if gtF (fltAt [fl p, fl q, fl r] 2) (fltAt [fl p, fl q, fl r] (if gtF (fl q) (fl p) then 1 else 0)) then 2 else (if gtF (fl q) (fl p) then 1 else 0)) = _
  rw [g1 hq hp]
  by_cases h : q > p
  ·rw [decide_eq_true h, if_pos rfl]
   show fltAt [fl p, fl q, fl r] (if gtF (fl r) (fl q) then 2 else 1) = _
   rw [g1 hr hq]
   by_cases h2 : r > q
   ·rw [decide_eq_true h2, if_pos rfl]; show fl r = _; congr 1; unfold big3; omega
   ·rw [decide_eq_false h2, if_neg (by decide)]; show fl q = _; congr 1; unfold big3; omega
  ·rw [decide_eq_false h]
   show fltAt [fl p, fl q, fl r] (if gtF (fl r) (fl p) then 2 else 0) = _
   rw [g1 hr hp]
   by_cases h2 : r > p
   ·rw [decide_eq_true h2, if_pos rfl]; show fl r = _; congr 1; unfold big3; omega
   ·rw [decide_eq_false h2, if_neg (by decide)]; show fl p = _; congr 1; unfold big3; omega
 rwa [e] at this
theorem Fn.min3F {p q r : Int} (hp : Fits p) (hq : Fits q) (hr : Fits r) : Fn C n (.val (.builtin "min")) [.flt (fl p), .flt (fl q), .flt (fl r)] [] H H (.flt (fl (low3 p q r))) := by
 have := Fn.min3 (C := C) (n := n) (H := H) (x := fl p) (y := fl q) (z := fl r)
 have g1 : ∀ {p q : Int}, Fits p → Fits q → ltF (fl p) (fl q) = decide (p < q) := fun a b => cmp_lt a b
 have e : fltAt [fl p, fl q, fl r] (argBest (fun i j => ltF (fltAt [fl p, fl q, fl r] i) (fltAt [fl p, fl q, fl r] j)) 2) = fl (low3 p q r) := by
  show fltAt [fl p, fl q, fl r] (if ltF (fltAt [fl p, fl q, fl r] 2) (fltAt [fl p, fl q, fl r] (if ltF (fl q) (fl p) then 1 else 0)) then 2 else (if ltF (fl q) (fl p) then 1 else 0)) = _
  rw [g1 hq hp]
  by_cases h : q < p
  ·rw [decide_eq_true h, if_pos rfl]
   show fltAt [fl p, fl q, fl r] (if ltF (fl r) (fl q) then 2 else 1) = _
   rw [g1 hr hq]
   by_cases h2 : r < q
   ·rw [decide_eq_true h2, if_pos rfl]; show fl r = _; congr 1; unfold low3; omega
   ·rw [decide_eq_false h2, if_neg (by decide)]; show fl q = _; congr 1; unfold low3; omega
  ·rw [decide_eq_false h]
   show fltAt [fl p, fl q, fl r] (if ltF (fl r) (fl p) then 2 else 0) = _
   rw [g1 hr hp]
   by_cases h2 : r < p
   ·rw [decide_eq_true h2, if_pos rfl]; show fl r = _; congr 1; unfold low3; omega
   ·rw [decide_eq_false h2, if_neg (by decide)]; show fl p = _; congr 1; unfold low3; lia
 rwa [e] at this
end
end
section
section
variable {C : Ct} {n : Nat} {env : Env} {σ σ' σ1 : Loc} {H H' H0 H1 H2 H3 : List HObj} {test : PySem.Expr} {body : List PySem.Stmt} {a b i : Int}
theorem Bin.addE {r : Int} (e : a + b = r) : Bin C n .Add (.int a) (.int b) H H (.int r) := e ▸ Bin.addInt
theorem Bin.subE {r : Int} (e : a - b = r) : Bin C n .Sub (.int a) (.int b) H H (.int r) := e ▸ Bin.sub
theorem Bin.fdivE {r : Int} (hb : b ≠ 0) (h : b.natAbs.log2 < 9000) (e : a.fdiv b = r) : Bin C n .FloorDiv (.int a) (.int b) H H (.int r) := e ▸ Bin.fdiv hb h
theorem Bin.fmodE {r : Int} (hb : b ≠ 0) (e : a.fmod b = r) : Bin C n .Mod (.int a) (.int b) H H (.int r) := e ▸ Bin.fmod hb
theorem Bin.half {x y m : Nat} (e : (x + y) / 2 = m) : Bin C n .FloorDiv (.int ((x : Int) + y)) (.int 2) H H (.int (m : Int)) := by
 refine Bin.fdivE (by decide) (by decide) ?_
 rw [Int.fdiv_eq_ediv_of_nonneg _ (by decide)]; lia
theorem Wh.bis (S : Nat → Nat → Loc) {r lo0 hi0 : Nat} (ht : ∀ a b, Tst C n env (S a b) H test H (decide ((a : Int) < b)))
  (hb : ∀ a b, a < b → lo0 ≤ a → b ≤ hi0 → a ≤ r → r ≤ b → ∃ σ1 a' b', Ex C n env (S a b) H body (.next σ1 H) ∧ (∀ x u, (S a' b').lookup x = some u → σ1.lookup x = some u) ∧ a ≤ a' ∧ b' ≤ b ∧ a' ≤ r ∧ r ≤ b' ∧ b' - a' < b - a) (k a b : Nat) (hk : b - a ≤ k) (h1 : lo0 ≤ a) (h2 : b ≤ hi0) (h3 : a ≤ r) (h4 : r ≤ b) :
  Wh C n env test body k (S a b) H (.next (S r r) H) := by
 have stop : ∀ k a b, a ≤ r → r ≤ b → ¬ a < b → Wh C n env test body k (S a b) H (.next (S r r) H) := fun k a b h3 h4 z => by
  have t := ht a b
  rw [decide_eq_false (fun q => z (Int.ofNat_lt.mp q))] at t
  obtain rfl : a = r := Nat.le_antisymm h3 (Nat.le_trans h4 (Nat.not_lt.mp z))
  obtain rfl : b = a := Nat.le_antisymm (Nat.not_lt.mp z) h4
  exact .stop t
 induction k generalizing a b with
 | zero => exact stop 0 a b h3 h4 (by omega)
 | succ k ih =>
  by_cases hab : a < b
  ·obtain ⟨σ1, a', b', hx, hs, q1, q2, q3, q4, q5⟩ := hb a b hab h1 h2 h3 h4
   have t := ht a b
   rw [decide_eq_true (Int.ofNat_lt.mpr hab)] at t
   exact .turn t hx (.weak hs (ih a' b' (by omega) (Nat.le_trans h1 q1) (Nat.le_trans q2 h2) q3 q4))
  ·exact stop _ a b h3 h4 hab
end
end
section
inductive ClsIs (D N : Addr) (r : Option Obj) : Prop
 | mk (nm q : Str) (bs : List Value) (sn : List Str) (sub : List Value) (ab : Bool) (col : Option Bool) (dd : Option Addr) (k0 k1 k2 k3 k5 : Option Value) (newId : String) : r = some (excClassObj nm q D N bs [.type "object"] true sn sub ab col dd k0 k1 k2 k3 k5 newId) → ClsIs D N r
structure Cls (C : Ct) (D N : Addr) (es : Array DictEntry) : Prop where
 obj : ClsIs D N (C.K.lookup D)
 ns : ∃ n, C.K.lookup N = some ⟨.type "dict", none, .dict es n, #[]⟩
 keys : StrKeys es
noncomputable def strKeysB (es : Array DictEntry) : Bool := es.toList.all fun e => match e.key with | .str _ _ => true | _ => false
theorem strKeys_of {es : Array DictEntry} (h : strKeysB es = true) : StrKeys es := by
 intro e he
 have := List.all_eq_true.mp h e (by simpa using he)
 cases q : e.key with
 | str n t => exact ⟨n, t, rfl⟩
 | _ => rw [q] at this; cases this
theorem cls_of {C : Ct} {D N : Addr} {es : Array DictEntry} {nm q : Str} {bs : List Value} {sn : List Str} {sub : List Value} {ab : Bool} {col : Option Bool} {dd : Option Addr} {k0 k1 k2 k3 k5 : Option Value} {newId : String} {n : Nat}
  (h1 : C.K.lookup D = some (excClassObj nm q D N bs [.type "object"] true sn sub ab col dd k0 k1 k2 k3 k5 newId)) (h2 : C.K.lookup N = some ⟨.type "dict", none, .dict es n, #[]⟩) (h3 : strKeysB es = true) : Cls C D N es :=
 ⟨⟨_, _, _, _, _, _, _, _, _, _, _, _, _, _, h1⟩, ⟨_, h2⟩, strKeys_of h3⟩
noncomputable def instA (D : Addr) (j : Nat) : Asrt where
 P w v := ∃ a d, v = .ref a ∧ a ∉ w.ρ ∧ w.h.get? a = some (instObj D d) ∧ w.ρ[j]? = some d
 mono {X w w' v} hX S h := by
  obtain ⟨a, d, rfl, n, e, r⟩ := h
  refine ⟨a, d, rfl, S.notin e n, S.keep _ _ e n (hX.hard e ?_), S.at r⟩
  rintro (⟨v, h⟩ | ⟨es, n, h⟩ | ⟨vs, T, h, _⟩) <;> cases h
 top := j + 1
 low {w w' v} L h := by
  obtain ⟨a, d, rfl, n, e, r⟩ := h
  exact ⟨a, d, rfl, fun m => n (L.sub _ m), by rw [show w'.h = w.h from congrArg Shared.heap L.s]; exact e, (L.at_ j (Nat.lt_succ_self _)).trans r⟩
inductive OwnO (m : Str → Option Value) (o : Obj) : Prop
 | mk (es : Array DictEntry) (n : Nat) : o.cls = .type "dict" → o.dict = none → o.data = .dict es n → StrKeys es → UniqKeys es → (∀ y, nsFind es y = m y) → OwnO m o
noncomputable def ownA (x : Str) (i : Nat) : OAsrt where
 P w o := ∃ l, w.ρ[i]? = some l ∧ OwnO (fun y => if y = x then some (.ref l) else none) o
 mono {X w w' o} hX S h := let ⟨l, e, r⟩ := h; ⟨l, S.at e, r⟩
 hard {w o vs T} h hd := let ⟨_, _, ⟨_, _, _, _, e, _, _, _⟩⟩ := h; nomatch e.symm.trans hd
 top := i + 1
 low {w w' o} L h := let ⟨l, e, r⟩ := h; ⟨l, (L.at_ i (Nat.lt_succ_self _)).trans e, r⟩
 loose h := let ⟨l, e, ⟨es, n, a, b, c, d, f, g⟩⟩ := h; ⟨l, e, ⟨es, n, a, b, c, d, f, g⟩⟩
noncomputable def bareA : OAsrt where
 P _ o := o = emptyDict
 mono _ _ h := h
 hard {w o vs T} h hd := by
  cases h
  cases hd
 top := 0
 low _ h := h
 loose h := h
section
variable {C : Ct} {n : Nat} {env : Env} {σ σ' σ1 : Loc} {H H' H0 H1 H2 H3 : List HObj} {pos p0 pos' apos p : Pos} {k : Nat} {x y name id : Str} {v v1 v2 v3 : V} {e e1 e2 e3 : PySem.Expr} {D N f fI : Addr} {es : Array DictEntry} {i j : Nat}
theorem Cls.there (cl : Cls C D N es) {w : Wd} (B : BSt C w H) : ClsIs D N (w.h.get? D) ∧ w.h.Ns N (nsFind es) := by
 refine ⟨?_, ?_⟩
 ·obtain ⟨nm, q, bs, sn, sub, ab, col, dd, k0, k1, k2, k3, k5, newId, h⟩ := cl.obj
  exact ⟨nm, q, bs, sn, sub, ab, col, dd, k0, k1, k2, k3, k5, newId, B.X _ _ h⟩
 ·obtain ⟨m, hm⟩ := cl.ns
  exact ⟨_, es, m, B.X _ _ hm, rfl, cl.keys, fun q_ => rfl⟩
theorem fk_of {h : Heap} {q d : Addr} {o : Obj} {m : Str → Option Value} (hq : h.get? q = some (instObj D d)) (nq : d ≠ q) (hd : h.get? d = some o) (O : OwnO m o) : h.InstFk q D m := by
 obtain ⟨es, n, a, b, c, e, f, g⟩ := O
 exact ⟨_, hq, rfl, (fun c z => by cases z), .inr ⟨d, rfl, nq, ⟨o, es, n, hd, c, e, f, g⟩, ⟨o, hd, a, b⟩⟩⟩
theorem fk_own {h : Heap} {q d : Addr} {m : Str → Option Value} (I : h.InstFk q D m) (hq : h.get? q = some (instObj D d)) : ∃ o, h.get? d = some o ∧ OwnO m o := by
 obtain ⟨o, g1, _, _, g4⟩ := I
 obtain rfl := Option.some.inj (hq.symm.trans g1)
 rcases g4 with ⟨z, _⟩ | ⟨d2, g5, _, ⟨o3, es3, m3, g7, g8, g9, g10, g11⟩, ⟨o4, g12, g13, g14⟩⟩
 ·cases z
 ·cases g5
  obtain rfl := Option.some.inj (g7.symm.trans g12)
  exact ⟨o3, g7, ⟨es3, m3, g13, g14, g8, g9, g10, g11⟩⟩
theorem BSt.sem {w : Wd} {P : OAsrt} (B : BSt C w H) (e : H[j]? = some (.sem P)) : ∃ a o, w.ρ[j]? = some a ∧ w.h.get? a = some o ∧ P.P w o := by
 have hl : j < w.ρ.length := by rw [B.len]; exact (List.getElem?_eq_some_iff.mp e).1
 have ha : w.ρ[j]? = some w.ρ[j] := List.getElem?_eq_getElem hl
 cases B.obj j _ _ ha e with
 | sem e' p => exact ⟨_, _, ha, e', p⟩
theorem inst_own {w : Wd} {a : Value} (B : BSt C w H) (r : VRel w (.sem (instA D j)) a) (hj : H[j]? = some (.sem (ownA x i))) : ∃ q l, a = .ref q ∧ w.ρ[i]? = some l ∧ w.h.InstFk q D fun y => if y = x then some (.ref l) else none := by
 have h := r.inv
 obtain ⟨q, d, rfl, nq, hq, hd⟩ := h
 obtain ⟨d', o, hd', ho, l, hl, O⟩ := B.sem hj
 obtain rfl := Option.some.inj (hd.symm.trans hd')
 exact ⟨q, l, rfl, hl, fk_of hq (fun z => nq (z ▸ List.mem_of_getElem? hd)) ho O⟩
theorem Ev.attr (cl : Cls C D N es) (h : Ev C n env σ H (.Name id p) H1 (.sem (instA D j))) (hj : H1[j]? = some (.sem (ownA x i))) (hga : nsFind es "__getattribute__" = Option.none) (hna : nsFind es x = Option.none) (hB : typeLookup (.type "object") x = pure Option.none) :
  Ev C n env σ H (.Attribute (.Name id p) x pos) H1 (.ref i) := by
 intro A w Q E R B F K
 refine Attribute_name (h A w _ E R B F fun w1 a S1 B1 F1 r1 => ?_)
 obtain ⟨q, l, rfl, hl, I⟩ := inst_own B1 r1 hj
 obtain ⟨nm, q', bs, sn, sub, ab, col, dd, k0, k1, k2, k3, k5, newId, hD⟩ := (cl.there B1).1
 have hN := (cl.there B1).2
 obtain ⟨ρ, π, hh, g, d, t, os⟩ := w1
 refine load_attrFk hD hN hga hna hB I (by rw [if_pos rfl]) rfl ?_
 have X : Ext ⟨ρ, π, hh, g, d, t, os⟩ ⟨ρ, π, hh, g, d, t + 1, os⟩ := Ext.toks
 exact K ⟨ρ, π, _⟩ _ (S1.trans X.step) (B1.ext X) (F1.ext X) (.ref hl)
theorem Ev.inst {esx : List PySem.Expr} {ks : List Keyword} {vs : List V} {kv : List (Str × V)} {fo : Obj} {r : Option Value} {pl : Sem Bool} (cl : Cls C D N es) (h : Ev C n env σ H (.Name id p) H1 (.sem (instA D j))) (hj : H1[j]? = some (.sem (ownA x i))) (hx : ¬ name = x)
  (hga : nsFind es "__getattribute__" = Option.none) (hnh : nsFind es "__getattr__" = Option.none) (hf : nsFind es name = some (.ref f)) (hfo : C.K.lookup f = some fo) (hfc : fo.cls = .type "function") (hB : typeLookup (.type "object") name = pure r)
  (ha : EvA C n env σ H1 pos esx ks H2 vs kv) (hc : Fn C n (.val (.ref f)) (.sem (instA D j) :: vs) kv H2 H3 v) (hk : keepIn C.K (.ref f) = true)
  (hp : ((backTo pos (starEach esx env)).any (·.1) || (backToKw pos (keywordEach ks env)).any (·.1.isNone)) = false)
  (he : eval (.Call (.Attribute (.Name id p) name apos) esx ks pos) env = (do
   let ov ← eval (.Name id p) env
   standAt apos.atName
   let (f, first) ← holding [ov] (getMethod ov name pl)
   callWith pos f first (backTo pos (starEach esx env)) (backToKw pos (keywordEach ks env)))) :
  Ev C n env σ H (.Call (.Attribute (.Name id p) name apos) esx ks pos) H3 v := by
 intro A w Q E R B F K
 refine methodCall_KW (pl := pl) (h A w _ E R B F fun w1 a S1 B1 F1 r1 => ?_) he
 obtain ⟨q, l, rfl, hl, I⟩ := inst_own B1 r1 hj
 obtain ⟨nm, q', bs, sn, sub, ab, col, dd, k0, k1, k2, k3, k5, newId, hD⟩ := (cl.there B1).1
 have hN := (cl.there B1).2
 have hfo' := B1.X _ _ hfo
 have goal : wpAny C.M A (callWith pos (.ref f) [.ref q] (backTo pos (starEach esx env)) (backToKw pos (keywordEach ks env))) Q E w1.s := by
  refine callWith_of (P := fun h => C.K.In h) hp (keeps_K hk) (ha A w1 (.ref f) _ E R B1 F1 fun w2 ys zs S2 B2 F2 r2 r3 => ⟨B2.X, ?_⟩)
  exact hc A w2 Q E (.ref f) (.ref q :: ys) zs R B2 (.val _) (.cons (r1.step0 S2) r2) r3 fun w3 y S3 B3 r => K w3 y (S1.trans (S2.trans S3)) B3 (F2.step0 S3) r
 obtain ⟨ρ, π, hh, g, d, t, os⟩ := w1
 exact method_ofFk hD hN hga hnh hf hfo' hfc hB I (if_neg hx) goal
theorem Room.call {A : Around} {m : Nat} {xs : List Value} {ks : List (Str × Value)} (R : Room A (m + 1)) : Room (A.under (.builtin "type.__call__" ⟨.ref D :: xs, ks⟩)) m := by
 have hf : (Code.builtin "type.__call__" ⟨.ref D :: xs, ks⟩).frames = 0 := by
  rfl
 have e1 : (Code.builtin "type.__call__" ⟨.ref D :: xs, ks⟩).weight = 1 := by
  have hg : (Code.builtin "type.__call__" ⟨.ref D :: xs, ks⟩).isGuard = false := by
   show guardIds.contains "type.__call__" = false
   decide +kernel
  have hc : (Code.builtin "type.__call__" ⟨.ref D :: xs, ks⟩).isCreation = true := rfl
  have hk : (Code.builtin "type.__call__" ⟨.ref D :: xs, ks⟩).isCaller = false := by
   rfl
  simp [Code.weight, hf, hc, hg, hk]
 have e2 : (Code.builtin "type.__call__" ⟨.ref D :: xs, ks⟩).cUnits = 1 := by simp [Code.cUnits, hf]
 refine ⟨R.hd, ?_, ?_⟩
 ·have := R.depth; show A.depth + (Code.builtin "type.__call__" ⟨.ref D :: xs, ks⟩).weight + m ≤ 900
  lia
 ·have := R.units; show A.units + (Code.builtin "type.__call__" ⟨.ref D :: xs, ks⟩).cUnits + 20 * m ≤ 9000
  lia
theorem Fn.make {args : List V} {kw : List (Str × V)} (hm : makesIn C.K D = true) (hi : findIn C.K (.ref D) "__init__" = some (some (.ref fI))) (hf : typeIn C.K (.ref fI) = some (.type "function"))
  (hinit : FnC C n (.val (.ref fI)) (.sem (instA D H.length) :: args) kw (H ++ [.sem bareA]) H' .none) : Fn C (n + 1) (.val (.ref D)) args kw H H' (.sem (instA D H.length)) := by
 intro A w Q E g xs ks R B rg rx rk K
 obtain ⟨_, rfl⟩ := rg.inv
 obtain ⟨ρ, π, hh, g, d, t, os⟩ := w
 refine wpAny_call (make_core (makes_of B.X hm) (looks_findIn B.X hi) (fun self => bind_fn B.X self hf) (.inl rfl) ?_)
 have hk : ∀ b ob, hh.get? b = some ob → ((hh.push emptyDict).push (instObj D hh.objs.size)).get? b = some ob := fun b ob e => Heap.get?_push_of_some _ (Heap.get?_push_of_some _ e)
 have hd : ((hh.push emptyDict).push (instObj D hh.objs.size)).get? hh.objs.size = some emptyDict := Heap.get?_push_of_some _ (Heap.get?_push_size _ rfl)
 have hx : ((hh.push emptyDict).push (instObj D hh.objs.size)).get? (hh.objs.size + 1) = some (instObj D hh.objs.size) := by heap_get
 have hn : hh.get? hh.objs.size = none := size_none _
 obtain ⟨B1, S1⟩ := B.track (s' := ⟨(hh.push emptyDict).push (instObj D hh.objs.size), g, d, t, os⟩) (a := hh.objs.size) (o := .sem bareA) hk rfl rfl (Nat.le_refl _) hn B.size3 (fun q_ => .sem hd rfl) (fun P e => by cases e; exact Nat.zero_le _)
 have hnx : hh.objs.size + 1 ∉ ρ ++ [hh.objs.size] := fun z => by
  rcases List.mem_append.mp z with z | z
  ·refine B.fresh (a := hh.objs.size + 1) ?_ z
   cases q : hh.get? (hh.objs.size + 1) with
   | none => rfl
   | some o => exact absurd (Heap.lt_size q) (Nat.not_lt.mpr (Nat.le_succ _))
  ·have := List.mem_singleton.mp z; lia
 have r1 : VRel ⟨ρ ++ [hh.objs.size], π, ⟨(hh.push emptyDict).push (instObj D hh.objs.size), g, d, t, os⟩⟩ (.sem (instA D H.length)) (.ref (hh.objs.size + 1)) :=
  .sem ⟨_, _, rfl, hnx, hx, by rw [← B.len]; simp⟩
 refine hinit _ _ (InitBack (hh.objs.size + 1) _) (.ref fI) (.ref (hh.objs.size + 1) :: xs) ks R.call B1 (.val _) (.cons r1 (rx.step0 S1)) (rk.step0 S1) fun w2 y S2 B2 r2 => ?_
 obtain ⟨_, rfl⟩ := r2.inv
 exact ⟨rfl, K w2 _ (S1.trans S2) B2 (r1.step0 S2)⟩
theorem Es.attr (cl : Cls C D N es) (hv : Ev C n env σ H e H1 (.ref i)) (h : Ev C n env σ H1 (.Name id p) H2 (.sem (instA D j))) (hj : H2[j]? = some (.sem bareA)) (hsa : nsFind es "__setattr__" = Option.none) (hna : nsFind es x = Option.none) (hB : typeLookup (.type "object") x = pure Option.none)
  (hs : swapsWith e (some (.Attribute (.Name id p) x pos')) pos.line env = pure false) : Es C n env σ H (.Assign [.Attribute (.Name id p) x pos'] e pos) (.next σ (H2.set j (.sem (ownA x i)))) := by
 intro A w Q E R B F K
 refine plainObj_wpAny_Assign_Attribute (hv A w _ E R B F fun w1 l S1 B1 F1 r1 => h A w1 _ E R B1 F1 fun w2 a S2 B2 F2 r2 => ?_) hs
 have rl := r1.step0 S2
 obtain ⟨_, rfl, hl⟩ := rl.inv
 have r2 := r2.inv
 obtain ⟨q, d, rfl, nq, hq, hd⟩ := r2
 have ho : w2.h.get? d = some emptyDict := by
  obtain ⟨d', o, hd', ho, rfl⟩ := B2.sem hj
  obtain rfl := Option.some.inj (hd.symm.trans hd')
  exact ho
 have I := fk_of (m := fun q_ => Option.none) hq (fun z => nq (z ▸ List.mem_of_getElem? hd)) ho ⟨#[], 0, rfl, rfl, rfl, (fun e he => by simp at he), (by unfold UniqKeys; simp), fun q_ => rfl⟩
 obtain ⟨nm, q', bs, sn, sub, ab, col, dd, k0, k1, k2, k3, k5, newId, hD⟩ := (cl.there B2).1
 have qD : q ≠ D := fun z => by
  rw [z] at hq; rw [hq] at hD
  exact nomatch congrArg Obj.data (Option.some.inj hD)
 refine wpAny_with_toks (n := w2.s.toks) (Nat.le_refl _) ?_
 have hN := (cl.there B2).2
 obtain ⟨ρ, π, hh, g, dr, t, os⟩ := w2
 refine store_attrFk (ns := []) PySem.F.store_object hD hN hsa hna hB qD I (fun h' tk' I' hk hsame htk => ?_) (fun y h => absurd rfl h) (by decide)
 have h1 : h'.get? q = some (instObj D d) := by
  obtain ⟨⟨oc, od, oda, osl⟩, h1, h2, h3, h4, h5⟩ := hsame _ hq
  have hz := h5 d rfl
  simp only at h2 h3 h4 hz
  subst h2; subst h3; subst h4; subst hz; exact h1
 have base : ∀ b ob, b ≠ d → hh.get? b = some ob → h'.get? b = some ob := fun b ob nb e => by
  by_cases hb : b = q
  ·subst hb; obtain rfl := Option.some.inj (hq.symm.trans e); exact h1
  ·exact hk b ob hb (fun o₀ dx e0 e1 z => by obtain rfl := Option.some.inj (hq.symm.trans e0); cases e1; exact nb z) e
 obtain ⟨o3, g7, O⟩ := fk_own I' h1
 obtain ⟨B3, S3⟩ := B2.setK (s' := ⟨h', g, dr, tk', os⟩) (a := d) (o := .sem (ownA x i)) hd base rfl rfl htk ⟨_, g7⟩ (fun S => .sem g7 ⟨_, hl, by obtain ⟨es, n, a, b, c, d, f, g⟩ := O; exact ⟨es, n, a, b, c, d, f, fun y => by rw [g]⟩⟩)
  (fun P e => by cases e; rw [← B2.len]; exact (List.getElem?_eq_some_iff.mp hl).1)
 exact K ⟨ρ, π, _⟩ _ (F.wide (S1.trans (S2.trans S3))) (.next B3 (F2.step0 S3))
end
end
section
open PySem.Builtin.Re
noncomputable def codeN : Array Nat := #[14, 10, 4, 1, 1, 22, 0, 31, 16, 127, 0, 13, 7, 22, 0, 31, 16, 127, 0, 1]
noncomputable def codeV : Array Nat := #[14, 14, 4, 1, 1, 9, 4294966783, 0, 0, 2147483648, 0, 0, 0, 0, 0, 13, 11, 9, 4294966783, 0, 0, 2147483648, 0, 0, 0, 0, 0, 1]
noncomputable def plain (c : Nat) : Prop := 32 ≤ c ∧ c < 127
noncomputable def Miss (code : Array Nat) (c : Nat) : Prop := ∀ seen, ∃ seen', Sre.inSet code c code.size 5 true seen = .ok (false, seen')
theorem missN {c : Nat} (h : plain c) : Miss codeN c := by
 intro seen
 have h1 : (decide (0 ≤ c) && decide (c ≤ 31)) = false := by rw [Bool.and_eq_false_iff]; right; exact decide_eq_false (by have := h.1; exact Nat.not_le.mpr (by assumption))
 have h2 : (c == 127) = false := by rw [beq_eq_false_iff_ne]; have := h.2; exact Nat.ne_of_lt (by assumption)
 show ∃ seen', Sre.inSet codeN c 20 5 true seen = _
 show ∃ seen', (if (decide (0 ≤ c) && decide (c ≤ 31)) = true then _ else Sre.inSet codeN c 19 8 true _) = _
 rw [h1, if_neg Bool.false_ne_true]
 show ∃ seen', (if (c == 127) = true then _ else Sre.inSet codeN c 18 10 true _) = _
 rw [h2, if_neg Bool.false_ne_true]
 exact ⟨_, rfl⟩
theorem bitsV : ∀ c : _root_.Fin 127, 32 ≤ c.val → (codeV.getD (5 + (1 + c.val / 32)) 0).testBit (c.val % 32) = false := by decide +kernel
theorem missV {c : Nat} (h : plain c) : Miss codeV c := by
 intro seen
 have h1 : (decide (c < 256) && (codeV.getD (5 + (1 + c / 32)) 0).testBit (c % 32)) = false := by rw [bitsV ⟨c, h.2⟩ h.1, Bool.and_false]
 show ∃ seen', Sre.inSet codeV c 28 5 true seen = _
 show ∃ seen', (if (decide (c < 256) && (codeV.getD (5 + (1 + c / 32)) 0).testBit (c % 32)) = true then _ else Sre.inSet codeV c 27 14 true _) = _
 rw [h1, if_neg Bool.false_ne_true]
 exact ⟨_, rfl⟩
theorem admitted_none {m : Sre.M} (h : ∀ s, s < m.lim → Miss m.code (m.text.getD s 0)) : ∀ fuel s seen, ∃ seen', Sre.M.admitted m fuel s seen = .ok (none, seen')
 | 0, _, seen => ⟨seen, rfl⟩
 | fuel + 1, s, seen => by
  unfold Sre.M.admitted
  by_cases q : s ≥ m.lim
  ·rw [if_pos q]; exact ⟨seen, rfl⟩
  ·rw [if_neg q]
   obtain ⟨seen', e⟩ := h s (by exact Nat.lt_of_not_le (by assumption)) seen
   rw [e]
   exact admitted_none h fuel (s + 1) seen'
theorem attempt_none {m : Sre.M} (hf : m.hasFirstSet = true) (h : ∀ s, s < m.lim → Miss m.code (m.text.getD s 0)) (s : Nat) (first : Bool) : ∃ seen', m.attemptFrom s first = { m with seen := seen' }.say false := by
 unfold Sre.M.attemptFrom
 rw [hf]
 obtain ⟨seen', e⟩ := admitted_none h (m.lim + 1 - s) s m.seen
 simp only [Bool.not_true, Bool.false_eq_true, if_false]
 rw [e]
 exact ⟨seen', rfl⟩
theorem run_say {m : Sre.M} (ho : m.outcome = none) (hf : m.frames = []) : (m.say false).runFor 4 = { m.say false with outcome := some .failed } := by
 obtain ⟨_, _, _, _, _, _, _, _, _, _, _, _, _, _, _, _, _, _, _, _, _⟩ := m
 simp only at ho hf
 subst ho; subst hf
 rfl
theorem wpAny_rules {M : Model} {A : Around} {Q : PUnit → Shared → Prop} {E : Value → Shared → Prop} {s : Shared} {c : Nat → Bool} {t : Nat → String} : ∀ (l : List Nat), Q ⟨⟩ s →
  wpAny M A (forIn l PUnit.unit fun i q_ => (if c i = true then (rule (t i) >>= fun q_ => pure (ForInStep.yield PUnit.unit)) else pure (ForInStep.yield PUnit.unit) : Sem (ForInStep PUnit))) Q E s
 | [], h => wpAny_pure h
 | i :: l, h => by
  rw [List.forIn_cons]
  refine wpAny_bind ?_
  split
  ·exact wpAny_bind (wpAny_rule (wpAny_pure (wpAny_rules l h)))
  ·exact wpAny_pure (wpAny_rules l h)
theorem plainAttrs_pat : PlainAttrs "re.Pattern" :=
 ⟨⟨"object.__getattribute__", by rw [typeLookup_type, builtinLookup_eq_fast]; kernel_rfl, by decide +kernel⟩, by rw [typeLookup_type, builtinLookup_eq_fast]; kernel_rfl⟩
theorem slot_search : PySem.Slot "re.Pattern" "search" "re.Pattern.search" :=
 .of (owner := "re.Pattern") (n := "search") (by rw [typeLookup_type, builtinLookup_eq_fast]; kernel_rfl) (by decide +kernel) (by decide +kernel) (by decide +kernel)
  (.inr (by decide +kernel)) (by rw [isSubtype_type]; kernel_rfl)
theorem type_search : typeOf (.builtin "re.Pattern.search") = pure (.type "method_descriptor") := by show builtinType _ = _; rw [builtinType_eq_fast]; kernel_rfl
theorem entry_search : entryFor table "re.Pattern.search" = some Builtin.«re.Pattern.search» := entryFor_of_tree (by kernel_rfl)
theorem args_search (a b : Value) : argsOk "re.Pattern.search" ⟨[a, b], []⟩ := by unfold argsOk; kernel_rfl
theorem attempt_failed {m : Sre.M} {s : Nat} {first : Bool} (hf : m.hasFirstSet = true) (ho : m.outcome = none) (hr : m.frames = []) (h : ∀ s, s < m.lim → Miss m.code (m.text.getD s 0)) :
  ∃ m', (m.attemptFrom s first).runFor 4 = m' ∧ m'.outcome = some .failed := by
 obtain ⟨seen', e⟩ := attempt_none hf h s first
 rw [e]
 exact ⟨_, run_say ho hr, rfl⟩
theorem search_failed {code text : Array Nat} {groups pos lim : Nat} (hq : ((match Sre.ops[code.getD 0 0]? with | some .INFO => true | _ => false) && code.getD 2 0 == 4) = true) (hm : ∀ s, s < lim → Miss code (text.getD s 0)) :
  ∃ m', (Sre.forSearch code text groups pos lim false).runFor 4 = m' ∧ m'.outcome = some .failed := by
 unfold Sre.forSearch
 dsimp only
 split
 ·exact ⟨_, run_say rfl rfl, rfl⟩
 ·exact attempt_failed hq rfl rfl hm
structure Pat (C : Ct) (p ct : Addr) (code : Array Nat) : Prop where
 body : ∃ vs m, C.K.lookup ct = some ⟨.type "tuple", none, .seq vs m, #[]⟩ ∧ (vs.map reRawOf).map (·.toNat) = code
 obj : ∃ a b t d e t', C.K.lookup p = some ⟨.type "re.Pattern", none, .fields #[a, b, .int 0 t, d, e, .ref ct, .int 0 t'], #[]⟩
 quick : ((match Sre.ops[code.getD 0 0]? with | some .INFO => true | _ => false) && code.getD 2 0 == 4) = true
theorem Fn.search0 {C : Ct} {n : Nat} {H : List HObj} {p ct : Addr} {code : Array Nat} {x : Str} (P : Pat C p ct code) (hx : ∀ c ∈ x.cps, Miss code c) (hl : x.length < 2 ^ 60) : Fn C n (.val (.builtin "re.Pattern.search")) [.val (.ref p), .str x] [] H H .none := by
 intro A w Q E g xs ks R B rg rx rk K
 obtain ⟨_, rfl⟩ := rg.inv
 obtain ⟨y, z, rfl, r1, r2⟩ := rx.inv2
 cases rk.inv0
 obtain ⟨_, rfl⟩ := r1.inv
 obtain ⟨t0, rfl⟩ := r2.inv
 obtain ⟨a, b, t, d, e, t', ho⟩ := P.obj
 obtain ⟨vs, m, hc, hv⟩ := P.body
 have ho' := B.X _ _ ho
 have hc' := B.X _ _ hc
 have done : Q .none w.s := K w _ (Step.refl _ _) B .none
 have hs : ∀ s, s < min (2 ^ 63 - 1 : Int).toNat x.cps.size → Miss code (x.cps.getD s 0) := fun s hs => by
  have hs' : s < x.cps.size := Nat.lt_of_lt_of_le hs (Nat.min_le_right _ _)
  rw [Array.getD_eq_getD_getElem?, Array.getElem?_eq_getElem hs']
  exact hx _ (Array.getElem_mem hs')
 obtain ⟨m', h1, h2⟩ := search_failed (code := code) (text := x.cps) (groups := 0) (pos := min (Int.toNat 0) x.cps.size) (lim := min (2 ^ 63 - 1 : Int).toNat x.cps.size) P.quick hs
 rw [← hv] at h1
 obtain ⟨ρ, π, hh, g, dr, tk, os⟩ := w
 change hh.get? p = _ at ho'
 change hh.get? ct = _ at hc'
 refine wpAny_call_entry slot_search ⟨_, ho', rfl⟩ entry_search ?_ (args_search _ _)
 unfold Builtin.«re.Pattern.search»
 refine wpAny_bind ?_
 unfold reTarget
 have e1 : reNamed "re.Pattern.search" "search" ["string", "pos", "endpos"] 1 [Value.str x t0] [] = pure [some (Value.str x t0), none, none] := by kernel_rfl
 dsimp only
 rw [e1]
 repeat lk
 have key : Sre.M.runFor reTurnSteps
        (Sre.forSearch (Array.map (fun x => x.toNat) (Array.map reRawOf ((some vs).getD #[]))) x.cps
         (reRawNat (#[a, b, Value.int 0 t, d, e, Value.ref ct, Value.int 0 t'].getD 2 Value.none))
         (min (Int.toNat 0) x.cps.size) (min (2 ^ 63 - 1 : Int).toNat x.cps.size) false) = m' := h1
 rw [key, h2]
 refine wpAny_pure (wpAny_bind (wpAny_rules _ ?_))
 rw [h2]
 exact wpAny_pure (wpAny_pure ⟨_, rfl, done⟩)
end
section
section
variable {C : Ct} {n : Nat} {env : Env} {σ σ' σ1 : Loc} {H H' H0 H1 H2 H3 : List HObj} {pos p0 pos' apos p : Pos} {k : Nat} {x y name id : Str} {v v1 v2 v3 : V} {e e1 e2 e3 : PySem.Expr} {i j : Nat}
theorem Fn.typeOf {T : String} (ht : Typ C H v T) (hnb : (Value.type T == Value.type "builtin_function_or_method") = false) : Fn C n (.val (.type "type")) [v] [] H H (.val (.type T)) := by
 intro A w Q E g xs ks R B rg rx rk K
 obtain ⟨_, rfl⟩ := rg.inv
 obtain ⟨z, rfl, r1⟩ := rx.inv1
 cases rk.inv0
 exact call_type_of (ht w z B r1).1 hnb (K w _ (Step.refl _ _) B (.val _))
theorem Cmp.isT {X Y : String} : Cmp C n .Is (.val (.type X)) (.val (.type Y)) H (Value.type X == Value.type Y) := by
 intro A w Q E x y R B rx ry K
 obtain ⟨_, rfl⟩ := rx.inv; obtain ⟨_, rfl⟩ := ry.inv
 exact wpAny_pure (a := Value.bool (Value.type X == Value.type Y)) (K w (Step.refl _ _) B)
theorem Cmp.isNotT {X Y : String} : Cmp C n .IsNot (.val (.type X)) (.val (.type Y)) H (!(Value.type X == Value.type Y)) := by
 intro A w Q E x y R B rx ry K
 obtain ⟨_, rfl⟩ := rx.inv; obtain ⟨_, rfl⟩ := ry.inv
 exact isnot_type (K w (Step.refl _ _) B)
theorem Typ.known {a : Addr} {o : Obj} {T : String} (ho : C.K.lookup a = some o) (hc : o.cls = .type T) (hd : o.dict = Option.none) : Typ C H (.val (.ref a)) T := fun w y B r => by
 obtain ⟨_, rfl⟩ := r.inv
 exact ⟨⟨_, B.X _ _ ho, hc⟩, fun b e => by cases e; exact ⟨_, B.X _ _ ho, hd⟩⟩
theorem Mth.search0 {q ct : Addr} {code : Array Nat} (P : Pat C q ct code) (hx : ∀ c ∈ x.cps, Miss code c) (hl : x.length < 2 ^ 60) : Mth C n (Str.ofString "search") (.val (.ref q)) [.str x] H H .none "re.Pattern" "re.Pattern.search" := ⟨plainAttrs_pat, slot_search, type_search, Fn.search0 P hx hl⟩
theorem Pat.typ {q ct : Addr} {code : Array Nat} (P : Pat C q ct code) : Typ C H (.val (.ref q)) "re.Pattern" := by
 obtain ⟨a, b, t, d, e, t', ho⟩ := P.obj
 exact Typ.known ho rfl rfl
theorem Tru.none : Tru C n .none H false := by
 intro A w Q E x R B rx K
 obtain ⟨_, rfl⟩ := rx.inv
 exact truthy_none (K w (Step.refl _ _) B)
set_option tactic.hygienic true in
theorem wp_peek1 {α : Type} {K : Frag} {M : Model} {A : Around} {E : Value → Shared → Prop} {Q : α → Shared → Prop} {s : Shared} {o : Obj} {r : α} (X : K.In s.heap) (q : Q r { s with heap := s.heap.push o }) :
  ∀ (t : Sem α) (g : Addr → Option α), peek1 K ⟨M.prog, M.w.params⟩ t = some (o, g) → g s.heap.objs.size = some r → wpAny M A t Q E s := by
 intro t
 induction t with
 | rule _ k ih => intro g e hg Γ p hΓ; exact ih () g e hg Γ p hΓ
 | point _ k ih => intro g e hg Γ p hΓ; exact ih () g e hg Γ p hΓ
 | ask k ih => intro g e hg Γ p hΓ; exact ih _ g e hg Γ p hΓ
 | load a _ k ih =>
  intro g e hg Γ p hΓ
  simp only [peek1] at e
  split at e
  ·rename_i ob ho; exact ⟨ob, X _ _ ho, ih ob g e hg Γ p hΓ⟩
  ·cases e
 | alloc ob k _ =>
  intro g e hg
  have e : some (ob, fun D => peek K ⟨M.prog, M.w.params⟩ (k D)) = some (o, g) := e
  obtain ⟨e1, e2⟩ := Prod.mk.inj (Option.some.inj e)
  subst e1
  subst e2
  have X' : K.In (s.heap.push ob) := X.keeps fun b x hb => Heap.get?_push_of_some _ hb
  show wpAny M A (alloc ob >>= k) Q E s
  exact wpAny_bind (wpAny_alloc ((Looks.of_peek (M := M) (h := s.heap.push ob) X' hg).here (s := { s with heap := s.heap.push ob }) q))
 | _ => intro g e; cases e
theorem BindsX.kw {fd : FuncData} {args : List V} {ns : List Str} (h : ∀ (xs : List Value) (D : Addr), xs.length = args.length → (peek1 C.K ⟨C.M.prog, C.M.w.params⟩ (bindArgs fd ⟨xs, []⟩)).map (fun r => (r.1, r.2 D)) = some (emptyDict, some (ns.zip (xs ++ [.ref D])))) :
  BindsX C fd args [] ns (args ++ [.ref H.length]) H (H ++ [.sem bareA]) := by
 intro A w Q E xs ks _ B rx rk K
 cases rk.inv0
 obtain ⟨ρ, π, s⟩ := w
 have e := h xs s.heap.objs.size rx.length
 obtain ⟨⟨o, g⟩, e1, e2⟩ := Option.map_eq_some_iff.mp e
 obtain ⟨e3, e4⟩ := Prod.mk.inj e2
 dsimp only at e3 e4
 subst e3
 have hn : s.heap.get? s.heap.objs.size = Option.none := size_none _
 obtain ⟨B1, S1⟩ := B.track (s' := { s with heap := s.heap.push emptyDict }) (a := s.heap.objs.size) (o := .sem bareA) (fun b ob e => Heap.get?_push_of_some _ e) rfl rfl (Nat.le_refl _) hn B.size3 (fun q_ => .sem (Heap.get?_push_size _ rfl) rfl) (fun P e => by cases e; exact Nat.zero_le _)
 refine wp_peek1 (M := C.M) B.X ?_ _ g e1 e4
 exact K ⟨ρ ++ [s.heap.objs.size], π, { s with heap := s.heap.push emptyDict }⟩ _ S1 B1 ((rx.step0 S1).append (.cons (.ref (by rw [← B.len]; simp)) .nil))
noncomputable def viewA (j : Nat) : Asrt where
 P w v := ∃ q d, v = .ref q ∧ q ∉ w.ρ ∧ w.h.get? q = some { cls := .type "dict_items", data := .fields #[.ref d] } ∧ w.ρ[j]? = some d
 mono {X w w' v} hX S h := by
  obtain ⟨a, d, rfl, n, e, r⟩ := h
  refine ⟨a, d, rfl, S.notin e n, S.keep _ _ e n (hX.hard e ?_), S.at r⟩
  rintro (⟨v, h⟩ | ⟨es, n, h⟩ | ⟨vs, T, h, hc, hT⟩)
  ·cases h
  ·cases h
  ·cases hc; exact absurd hT (by decide)
 top := j + 1
 low {w w' v} L h := by
  obtain ⟨a, d, rfl, n, e, r⟩ := h
  exact ⟨a, d, rfl, fun m => n (L.sub _ m), by rw [show w'.h = w.h from congrArg Shared.heap L.s]; exact e, (L.at_ j (Nat.lt_succ_self _)).trans r⟩
theorem bare_at {w : Wd} (B : BSt C w H) (hj : H[j]? = some (.sem bareA)) {d : Addr} (hd : w.ρ[j]? = some d) : w.s.heap.DictAt (strKind C.prog C.w) d [] 0 ∧ w.h.get? d = some emptyDict := by
 obtain ⟨d', o, hd', ho, rfl⟩ := B.sem hj
 obtain rfl := Option.some.inj (hd.symm.trans hd')
 exact ⟨⟨_, #[], ho, ⟨rfl, rfl, rfl⟩, rfl, (fun e he => by simp at he), .nil, .nil⟩, ho⟩
theorem Typ.bare (hj : H[j]? = some (.sem bareA)) : Typ C H (.ref j) "dict" := fun w y B r => by
 obtain ⟨_, rfl, hd⟩ := r.inv
 obtain ⟨_, ho⟩ := bare_at B hj hd
 exact ⟨⟨_, ho, rfl⟩, fun b e => by cases e; exact ⟨_, ho, rfl⟩⟩
theorem sysModules_low {w : Wd} (B : BSt C w H) {d : Addr} (hd : w.ρ[j]? = some d) : (d == sysModules) = false := by
 rw [beq_eq_false_iff_ne]
 exact (B.out _ (List.mem_of_getElem? hd)).2
theorem entry_itemsIter : entryFor table "dict_itemiterator.__iter__" = some Builtin.«dict_keyiterator.__iter__» := entryFor_alias (id' := "dict_keyiterator.__iter__") (by kernel_rfl) rfl (by decide +kernel) (by kernel_rfl)
theorem Mth.items (hj : H[j]? = some (.sem bareA)) : Mth C n (Str.ofString "items") (.ref j) [] H H (.sem (viewA j)) "dict" "dict.items" := by
 refine ⟨F.plainAttrs_dict, F.slot_dict_items, F.type_dict_items, ?_⟩
 intro A w Q E g xs ks R B rg rx rk K
 obtain ⟨_, rfl⟩ := rg.inv
 obtain ⟨z, rfl, r1⟩ := rx.inv1
 cases rk.inv0
 cases r1 with | @ref _ d hd =>
 obtain ⟨hm, ho⟩ := bare_at B hj hd
 have hdo : w.s.heap.DictOf (strKind C.prog C.w) d [] := let ⟨o, es, h⟩ := hm; ⟨o, es, 0, h⟩
 refine call_meetsIn (self := .ref d) F.slot_dict_items ⟨_, ho, rfl⟩ F.entry_dict_items (F.args_dict_items_1 _) (meets_dict_items (strKind C.prog C.w) _ (sysModules_low B hd)) ⟨⟨[], hdo⟩, ?_⟩
 have X1 : Ext w ⟨w.ρ, w.π, { w.s with heap := w.s.heap.push { cls := .type "dict_items", data := .fields #[.ref d] } }⟩ := Ext.push _
 exact K ⟨w.ρ, w.π, _⟩ _ X1.step (B.ext X1) (.sem ⟨_, _, rfl, B.fresh (size_none _), Heap.get?_push_size _ rfl, hd⟩)
theorem Src.items (hj : H[j]? = some (.sem bareA)) : Src C n (.sem (viewA j)) H (fun H' => H'[j]? = some (.sem bareA)) [] := by
 intro A w y Q E R B r K
 have r := r.inv
 obtain ⟨q, d, rfl, nq, hq, hd⟩ := r
 obtain ⟨hm, ho⟩ := bare_at B hj hd
 refine wpAny_pyIter_items (kvs := ([] : List (Str × Value))) ⟨_, hq, rfl, rfl⟩ hm ?_
 have X1 : Ext w ⟨w.ρ, w.π, { w.s with heap := w.s.heap.push { cls := .type "dict_itemiterator", data := .fields #[.none, .bool false, .ref d, .int 0 0, .int (([] : List (Str × Value)).length : Int) 0, .int (0 : Nat) 0, .none, .none] } }⟩ := Ext.push _
 refine K ⟨w.ρ, w.π, _⟩ (.ref w.s.heap.objs.size) [w.s.heap.objs.size] (fun q_ w' => w'.ρ[j]? = some d ∧ IsItemIter w'.h w.s.heap.objs.size d 0 0 0 .none .none) (fun q_ q_ w' => IsItemIter w'.h w.s.heap.objs.size d 0 0 0 .none .none) X1.step (B.ext X1) (fun b hb => ?_) ?_ ⟨hd, Heap.get?_push_size _ rfl⟩
 ·rw [List.mem_singleton.mp hb]; exact size_none _
 ·generalize w.s.heap.objs.size = I
  refine ⟨fun A w1 Q E R p K => ?_, ?_, ?_, ?_, ?_, ?_, ?_⟩
  ·have hT : w1.s.TypeIs (.ref I) "dict_itemiterator" := ⟨_, p.2, rfl⟩
   refine wpAny_pyIter_slot hT F.slot_dict_itemiterator_iter (wpAny_call_entry F.slot_dict_itemiterator_iter hT entry_itemsIter ?_ (F.args_dict_itemiterator_iter_1 _))
   show wpAny _ _ (PySem.ret (.ref I)) _ _ _
   exact wpAny_pure ⟨_, rfl, "dict_itemiterator", _, hT, F.slot_dict_itemiterator_next.lookup, K⟩
  ·intro i w' hit b hb
   rw [List.mem_singleton.mp hb]
   exact ⟨_, _, _, hit.2, rfl, rfl, by decide⟩
  ·intro i y w' hit b hb
   rw [List.mem_singleton.mp hb]
   exact ⟨_, _, _, hit, rfl, rfl, by decide⟩
  ·intro i w1 w2 Y hit S hY hXY hρ
   exact ⟨S.at hit.1, S.keep _ _ hit.2 (hρ I (.head _)) (hXY I (.head _))⟩
  ·intro i v A w1 H1 Q E hi
   simp at hi
  ·intro A w1 H1 Q E R B1 ok hit hX K
   obtain ⟨hm', ho'⟩ := bare_at B1 ok hit.1
   refine wpAny_pyNext_items_end (kvs := ([] : List (Str × Value))) (i := 0) R.hd hit.2 hm' rfl fun h' hs => ?_
   obtain ⟨S, ht⟩ := step_extBut (w := w1) hs
   exact K ⟨w1.ρ, w1.π, _⟩ S rfl ht
  ·intro i A w1 H1 target v y Q E _ hi
   simp at hi
end
end
section
section
variable {C : Ct} {n : Nat} {env : Env} {σ σ' σ1 : Loc} {H H' H0 H1 H2 H3 : List HObj} {pos p0 pos' apos p : Pos} {k : Nat} {x y name id : Str} {v v1 v2 v3 : V} {e e1 e2 e3 : PySem.Expr} {i j : Int} {a b : Int}
theorem Ev.meth0 {T mid : String} (h : Ev C n env σ H e H1 v1) (hm : Mth C n name v1 [] H1 H3 v T mid) (ht : Typ C H1 v1 T)
  (hbase : attributeBase e name env (eval e env) = eval e env) (hline : (apos.endLine == pos.line) = true) : Ev C n env σ H (.Call (.Attribute e name apos) [] [] pos) H3 v := by
 intro A w Q E R B F K
 refine wpAny_Call_method_lateS hbase rfl hline (h A w _ E R B F fun w1 x S1 B1 F1 r1 => ⟨T, mid, hm.pa, hm.slot, hm.ty, (ht w1 x B1 r1).1, (ht w1 x B1 r1).2, ?_⟩)
 refine callWith_of (P := fun q_ => True) (first := [x]) rfl (fun q_ q_ => ⟨.machine, .inr (.inl rfl), Looks.of_pure rfl⟩) (evalArgs_nil3 ⟨trivial, ?_⟩)
 have := hm.fn A w1 Q E (.builtin mid) [x] [] R B1 (.val _) (.cons r1 .nil) .nil fun w3 y S3 B3 r => K w3 y (S1.trans S3) B3 (F1.step0 S3) r
 exact this
theorem Ev.sliceS {lo hi : Option PySem.Expr} {i j : Option Int} (h1 : Ev C n env σ H e H1 (.str x)) (h2 : EvP C n env σ H1 lo H2 i) (h3 : EvP C n env σ H2 hi H3 j) (hz : x.length ≤ sizeLine)
  (hs : ∀ o i, ∃ ops, subscripted (.Slice lo hi Option.none p) false o i = operate ops (getItem o i)) : Ev C n env σ H (.Subscript e (.Slice lo hi Option.none p) pos) H3 (.str (Txt.slice x i j)) := by
 intro A w Q E R B F K
 refine Subscript_ (h1 A w _ E R B F fun w1 y1 S1 B1 F1 r1 => wpAny_Slice (h2 A w1 _ E R B1 F1 fun w2 t2 S2 B2 F2 => h3 A w2 _ E R B2 F2 fun w3 t3 S3 B3 F3 => wpAny_pure ?_))
 obtain ⟨t, rfl⟩ := r1.inv
 obtain ⟨ops, hops⟩ := hs (.str x t) (.ref w3.s.heap.objs.size)
 refine PyProof.Rows.tail_any (T := "str") (typeIs_str _ _ _) PySem.F.slot_str_getitem.lookup ?_ hops
 refine wpAny_with_toks (n := w3.s.toks) (Nat.le_refl _) ?_
 refine wpAny_getItem_str_slice (l := i.map fun j => (j, t2)) (u := j.map fun j => (j, t3)) (st := Option.none) ⟨_, Heap.get?_push_size _ rfl, rfl, ?_⟩ rfl ?_
 ·cases i <;> cases j <;> rfl
 ·have e3 : slicePicked x (i.map fun j => (j, t2)) (j.map fun j => (j, t3)) Option.none = Builtin.Str.strSliceIndices i j 1 x.length := by cases i <;> cases j <;> rfl
  unfold sliceMade
  rw [e3]
  refine post_val_or_str ⟨Nat.le_trans (Txt.slice_le x i j) hz, fun t' k htk => ?_⟩
  have X : Ext w3 ⟨w3.ρ, w3.π, { w3.s with heap := w3.s.heap.push { cls := .type "slice", data := .fields #[partValue (i.map fun j => (j, t2)), partValue (j.map fun j => (j, t3)), .none] }, toks := k }⟩ :=
   ⟨rfl, fun q_ q_ e => Heap.get?_push_of_some _ e, rfl, rfl, rfl, htk⟩
  exact K ⟨w3.ρ, w3.π, _⟩ _ (((S1.trans S2).trans S3).trans X.step) (B3.ext X) (F3.ext X) (.str _ _)
theorem Cmp.inStrs {u : V} {ns : List Str} (h : Lsy H u (ns.map .str)) : Cmp C n .In (.str x) u H (decide (x ∈ ns)) := by
 intro A w Q E z y R B rx ry K
 obtain ⟨t, rfl⟩ := rx.inv
 obtain ⟨q, vs, m, rfl, e1, r⟩ := h.isL B ry
 refine in_list_strs (isList_ofL e1) (strsAre r) ?_
 have e : ns.any (· == x) = decide (x ∈ ns) := by
  rw [Bool.eq_iff_iff, List.any_eq_true, decide_eq_true_iff]
  exact ⟨fun ⟨y, h1, h2⟩ => by rw [beq_iff_eq] at h2; exact h2 ▸ h1, fun h => ⟨x, h, by simp⟩⟩
 rw [e]
 exact K w (Step.refl _ _) B
theorem Itm.str {k : Nat} {c : Nat} (hk : x.cps[k]? = some c) (hb : k < 2 ^ 60) (hp : Plain1 e) : Itm C n e (.str x) (.int (k : Int)) H (.str ⟨#[c]⟩) := by
 intro A w Q E z y value R B rx ry K
 obtain ⟨_, rfl⟩ := rx.inv; obtain ⟨_, rfl⟩ := ry.inv
 have hlt : k < x.length := by
  have := (Array.getElem?_eq_some_iff.mp hk).1
  exact this
 refine tail_any (typeIs_str _ _ _) PySem.F.slot_str_getitem.lookup (getItem_gives (typeIs_str _ _ _) (by decide) PySem.F.slot_str_getitem PySem.F.entry_str_getitem (PySem.F.args_str_getitem_2 _ _)
  (gives_str_getitem x k _ _ c (by rw [Bool.or_eq_false_iff, decide_eq_false_iff_not, decide_eq_false_iff_not]; lia) (by
   have e : seqIndex? (k : Int) x.length = some k := by unfold seqIndex?; simp; lia
   rw [e]; exact hk)) ⟨(by show 1 ≤ sizeLine; decide), K ⟨w.ρ, w.π, _⟩ _ Ext.toks.step (B.ext Ext.toks) (.str _ _)⟩) (hp _ _)
end
end
section
open PySem.Float64
set_option exponentiation.threshold 3000
theorem V_int {n : Nat} (h : n < 2 ^ 53) : ∃ t, t < infMag ∧ Float64.V t = n * 2 ^ 1074 := by
 by_cases h0 : n = 0
 ·subst h0; exact ⟨0, by decide, by rw [V_zero, Nat.zero_mul]⟩
 ·have hl : n.log2 ≤ 52 := by have := (Nat.log2_lt h0).mpr h; exact Nat.le_of_lt_succ (by assumption)
  have e1 : 2 ^ n.log2 ≤ n := Nat.log2_self_le h0
  have e2 : n < 2 ^ (n.log2 + 1) := Nat.lt_log2_self
  have e3 : n * 2 ^ (52 - n.log2) < 2 ^ 53 := by
   have : 2 ^ (n.log2 + 1) * 2 ^ (52 - n.log2) = 2 ^ 53 := by rw [← Nat.pow_add]; congr 1; lia
   rw [← this]; exact Nat.mul_lt_mul_of_pos_right e2 (Nat.two_pow_pos _)
  have e4 : 2 ^ 52 ≤ n * 2 ^ (52 - n.log2) := by
   have : 2 ^ n.log2 * 2 ^ (52 - n.log2) = 2 ^ 52 := by rw [← Nat.pow_add]; congr 1; lia
   rw [← this]; exact Nat.mul_le_mul_right _ e1
  refine ⟨(1022 + n.log2) * 2 ^ 52 + n * 2 ^ (52 - n.log2), ?_, ?_⟩
  ·have : infMag = 2047 * 2 ^ 52 := rfl
   lia
  ·rw [V_at (Nat.le_of_lt e3) (.inl e4), Nat.mul_assoc, ← Nat.pow_add]
   congr 2; lia
theorem ofInt_pack {i : Int} (h : i.natAbs < 2 ^ 53) : ∃ t, t < infMag ∧ Float64.V t = i.natAbs * 2 ^ 1074 ∧ ofInt i = pack (decide (i < 0)) t := by
 obtain ⟨t, h1, h2⟩ := V_int h
 exact ⟨t, h1, h2, right_exact (ofInt_right i) (by decide) (by rw [Nat.one_mul]; exact h2.symm) h1⟩
theorem mul_hue {i : Int} (h0 : 0 ≤ i) (h : i < 16777216) : mul (fl (64 * i)) (ofInt 16777216) = ofInt i := by
 obtain ⟨m, e, hd, _, hv, _⟩ := fl_dec (p := 64 * i) (by lia)
 obtain ⟨t2, a1, a2, a3⟩ := ofInt_pack (i := 16777216) (by decide)
 obtain ⟨k, f, hd', hm'⟩ := decode_pack (decide ((16777216 : Int) < 0)) a1
 have hv' : (val (ofInt 16777216)).natAbs = 16777216 * 2 ^ 1074 := by rw [a3, val_natAbs hd', hm', a2]; rfl
 rw [← a3] at hd'
 obtain ⟨t, h1, h2, h3⟩ := ofInt_pack (i := i) (by lia)
 rw [h3]
 have hn : (decide (64 * i < 0) != decide ((16777216 : Int) < 0)) = decide (i < 0) := by
  rw [decide_eq_false (by lia), decide_eq_false (by decide), decide_eq_false (by lia)]; rfl
 have hR := mul_right hd hd'
 rw [hn] at hR
 refine right_exact hR (Nat.two_pow_pos _) ?_ h1
 rw [hv, hv', natAbs_val, h2]
 have e1 : (64 * i).natAbs = 2 ^ 6 * i.natAbs := by lia
 rw [e1, show (16777216 : Nat) = 2 ^ 24 from rfl]
 calc 2 ^ 6 * i.natAbs * 2 ^ 1044 * (2 ^ 24 * 2 ^ 1074) = i.natAbs * (2 ^ 6 * 2 ^ 1044 * 2 ^ 24 * 2 ^ 1074) := by generalize (2 : Nat) ^ 1044 = K; generalize (2 : Nat) ^ 1074 = L; ac_rfl
  _ = i.natAbs * (2 ^ 1074 * 2 ^ 1074) := by simp only [← Nat.pow_add]
  _ = 2 ^ 1074 * (i.natAbs * 2 ^ 1074) := by generalize (2 : Nat) ^ 1074 = L; ac_rfl
set_option tactic.hygienic true in
theorem trunc_int {i : Int} (h0 : 0 ≤ i) (h : i < 2 ^ 53) : ∃ m e, decode (ofInt i) = .fin false m e ∧ truncOf false m e = i := by
 obtain ⟨t, h1, h2, h3⟩ := ofInt_pack (i := i) (by lia)
 obtain ⟨m, e, hd, hm⟩ := decode_pack (decide (i < 0)) h1
 rw [← h3, decide_eq_false (by lia : ¬ i < 0)] at hd
 refine ⟨m, e, hd, ?_⟩
 have he := decode_ge hd
 rw [h2] at hm
 show floorOf false m e = _
 unfold floorOf
 have hs : sgn false m = (m : Int) := rfl
 rw [hs]
 split
 ·rename_i q
  have e1 : m * 2 ^ e.toNat * 2 ^ 1074 = i.natAbs * 2 ^ 1074 := by
   rw [← hm, Nat.mul_assoc, ← Nat.pow_add]; congr 2; lia
  have e2 := Nat.eq_of_mul_eq_mul_right (Nat.two_pow_pos _) e1
  rw [← pow_cast, ← Int.natCast_mul, e2]; lia
 ·rename_i q
  have e1 : m * 2 ^ (e + 1074).toNat = i.natAbs * 2 ^ (-e).toNat * 2 ^ (e + 1074).toNat := by
   rw [hm, Nat.mul_assoc, ← Nat.pow_add]; congr 2; lia
  have e2 := Nat.eq_of_mul_eq_mul_right (Nat.two_pow_pos _) e1
  rw [e2, ← pow_cast, Int.fdiv_eq_ediv_of_nonneg _ (Int.natCast_nonneg _), Int.natCast_mul, Int.mul_ediv_cancel _ (by have := Nat.two_pow_pos (-e).toNat; lia)]
  lia
section
variable {C : Ct} {n : Nat} {H : List HObj} {i : Int}
theorem Bin.mulHue (h0 : 0 ≤ i) (h : i < 16777216) (ht : C.tp := by trivial) : Bin C n .Mult (.flt (fl (64 * i))) (.int 16777216) H H (.flt (ofInt i)) := by
 intro A w Q E x y R B rx ry K
 obtain ⟨_, rfl, _⟩ := rx.inv; obtain ⟨_, rfl⟩ := ry.inv
 refine mul_fi_fits (by decide) ?_
 rw [mul_hue h0 h]
 exact K ⟨w.ρ, w.π, _⟩ _ Ext.toks.step (B.ext Ext.toks) (.flt _ _ (tok_ne ht B))
theorem Fn.intOf (h0 : 0 ≤ i) (h : i < 2 ^ 53) : Fn C n (.val (.type "int")) [.flt (ofInt i)] [] H H (.int i) := by
 obtain ⟨m, e, h1, h2⟩ := trunc_int h0 h
 have := Fn.intF (C := C) (n := n) (H := H) h1
 rwa [h2] at this
end
end
section
theorem hard_code {o : Obj} {vs : Array Value} (hd : o.data = .fields vs) (hc : o.cls = .type "code") : ¬ Soft o := by
 rintro (⟨v, h⟩ | ⟨es, n, h⟩ | ⟨us, T, h, hT, hm⟩)
 ·exact nomatch hd.symm.trans h
 ·exact nomatch hd.symm.trans h
 ·rw [hc] at hT
  have : T = "code" := by injection hT with q; exact q.symm
  subst this
  exact absurd hm (by decide)
noncomputable def CodeOk (w : Wd) (c : Addr) (q : Str) : Prop := c ∉ w.ρ ∧ ∃ o vs t, w.h.get? c = some o ∧ o.cls = .type "code" ∧ o.data = .fields vs ∧ vs[1]? = some (.str q t)
theorem CodeOk.step {X : List Addr} {w w' : Wd} {c : Addr} {q : Str} (hX : NonSeq w X) (S : Step X w w') (h : CodeOk w c q) : CodeOk w' c q := by
 obtain ⟨n, o, vs, t, e, h1, h2, h3⟩ := h
 exact ⟨S.notin e n, o, vs, t, S.keep _ _ e n (hX.hard e (hard_code h2 h1)), h1, h2, h3⟩
theorem CodeOk.low {m : Nat} {w w' : Wd} {c : Addr} {q : Str} (L : Low m w w') (h : CodeOk w c q) : CodeOk w' c q := by
 obtain ⟨n, o, vs, t, e, r⟩ := h
 exact ⟨fun z => n (L.sub _ z), o, vs, t, by rw [show w'.h = w.h from congrArg Shared.heap L.s]; exact e, r⟩
theorem CodeOk.rec {w : Wd} {c : Addr} {q : Str} (h : CodeOk w c q) : w.s.heap.CodeRec (.ref c) q := by
 obtain ⟨n, o, vs, t, e, h1, h2, h3⟩ := h
 exact ⟨c, o, vs, t, rfl, e, h2, h3⟩
noncomputable def tabA (t : Nat) (P : Addr) (q : Str) : OAsrt where
 P w o := w.ρ[t]? = some P ∧ ∃ ps, o = tabObj ps ∧ TriplesOk ps.toList ∧ ∀ pos v, codeAmong pos ps.toList = some v → ∃ c, v = .ref c ∧ CodeOk w c q
 mono {X w w' o} hX S h := by
  obtain ⟨h0, ps, e, h1, h2⟩ := h
  exact ⟨S.at h0, ps, e, h1, fun pos v z => let ⟨c, a, b⟩ := h2 pos v z; ⟨c, a, b.step hX S⟩⟩
 hard {w o vs T} h hd hc := by
  obtain ⟨_, ps, e, _⟩ := h
  rw [e] at hc
  cases hc
 top := t + 1
 low {w w' o} L h := by
  obtain ⟨h0, ps, e, h1, h2⟩ := h
  exact ⟨(L.at_ t (Nat.lt_succ_self _)).trans h0, ps, e, h1, fun pos v z => let ⟨c, a, b⟩ := h2 pos v z; ⟨c, a, b.low L⟩⟩
 loose h := h
set_option tactic.hygienic true in
theorem codeAmong_more {pos : Pos} {v c : Value} {a b : Int} (l : List Value) (h : TriplesOk l) (e : codeAmong pos (l ++ [rawInt a, rawInt b, c]) = some v) : codeAmong pos l = some v ∨ v = c := by
 fun_induction TriplesOk l with
 | case1 =>
  simp only [List.nil_append, codeAmong, rawInt] at e
  split at e
  ·exact .inr (by cases e; rfl)
  ·cases e
 | case2 a t b u x rest ih =>
  simp only [List.cons_append, codeAmong] at e ⊢
  split at e
  ·rename_i q; rw [if_pos q]; exact .inl e
  ·rename_i q; rw [if_neg q]; exact ih h e
 | case3 l h1 h2 => exact h.elim
noncomputable def V.lowOk (m : Nat) : V → Bool
 | .ref i => decide (i < m)
 | v => v.dat
theorem VRel.lowOk {m : Nat} {w w' : Wd} (L : Low m w w') {v : V} {y : Value} (h : v.lowOk m = true) (r : VRel w v y) : VRel w' v y := by
 cases v with
 | ref i =>
  obtain ⟨a, rfl, e⟩ := r.inv
  exact .ref ((L.at_ i (of_decide_eq_true h)).trans e)
 | _ => exact r.dat L.s L.sub h
noncomputable abbrev lamObj (q : Str) (params : Arguments) (body : PySem.Expr) (scope : Scope) (clos : List (Str × Addr)) (pm : Value) (cd ctv : Value) : Obj :=
 { cls := .type "function", data := .func (kla_fn "<lambda>" q params body scope clos pm cd ctv) }
inductive LamP (h₀ : Heap) (q : Str) (params : Arguments) (body : PySem.Expr) (scope : Scope) (caps : List (Str × V)) (w : Wd) (g : Value) : Prop
 | mk (f c : Addr) (ctv pm : Value) (clos : List (Str × Addr)) : g = .ref f → f ∉ w.ρ → w.h.get? f = some (lamObj q params body scope clos pm (.ref c) ctv) → CodeOk w c q → (clos.map (·.2)).Nodup →
  (∀ p ∈ clos, p.2 ∈ w.π ∧ p.2 ∉ w.ρ ∧ h₀.get? p.2 = none ∧ ∃ v₀, w.h.IsCell p.2 v₀) → (∀ x v, caps.lookup x = some v → ∃ c y, clos.lookup x = some c ∧ w.h.IsCell c (some y) ∧ VRel w v y) → LamP h₀ q params body scope caps w g
noncomputable def lamA (h₀ : Heap) (q : Str) (params : Arguments) (body : PySem.Expr) (scope : Scope) (caps : List (Str × V)) (m : Nat) (hm : caps.all (fun p => p.2.lowOk m) = true) : Asrt where
 P w g := LamP h₀ q params body scope caps w g
 mono {X w w' g} hX S h := by
  obtain ⟨f, c, ctv, pm, clos, rfl, n, e, hc, nd, hp, hv⟩ := h
  have kc : ∀ p ∈ clos, ∀ v₀, w.h.IsCell p.2 v₀ → w'.h.IsCell p.2 v₀ := fun p m v₀ z => by
   obtain ⟨o, ho, hd⟩ := z
   exact ⟨o, S.keep _ o ho (hp p m).2.1 (fun z => (hX _ z).1 (hp p m).1), hd⟩
  refine ⟨f, c, ctv, pm, clos, rfl, S.notin e n, S.keep _ _ e n (hX.hard e ?_), hc.step hX S, nd, fun p m => ?_, fun x v z => ?_⟩
  ·rintro (⟨v, h⟩ | ⟨es, n, h⟩ | ⟨vs, T, h, _⟩) <;> cases h
  ·obtain ⟨h1, h2, h3, v₀, h4⟩ := hp p m
   obtain ⟨o, ho, _⟩ := id h4
   exact ⟨S.pin ▸ h1, S.notin ho h2, h3, v₀, kc p m v₀ h4⟩
  ·obtain ⟨c, y, h1, h2, h3⟩ := hv x v z
   exact ⟨c, y, h1, kc (x, c) (mem_of_lookup h1) _ h2, h3.step hX S⟩
 top := m
 low {w w' g} L h := by
  obtain ⟨f, c, ctv, pm, clos, rfl, n, e, hc, nd, hp, hv⟩ := h
  have hh : w'.h = w.h := congrArg Shared.heap L.s
  refine ⟨f, c, ctv, pm, clos, rfl, fun z => n (L.sub _ z), by rw [hh]; exact e, hc.low L, nd, fun p m => ?_, fun x v z => ?_⟩
  ·obtain ⟨h1, h2, h3, v₀, h4⟩ := hp p m
   exact ⟨L.pin ▸ h1, fun z => h2 (L.sub _ z), h3, v₀, by rw [hh]; exact h4⟩
  ·obtain ⟨c, y, h1, h2, h3⟩ := hv x v z
   exact ⟨c, y, h1, by rw [hh]; exact h2, h3.lowOk L (List.all_eq_true.mp hm (x, v) (mem_of_lookup z))⟩
noncomputable def lamOk (scope : Scope) (ns cs : List Str) : Bool := scope.kind == .function && !scope.isCoroutine && !scope.isGenerator && scope.names.all (fun p => p.2 != .cell) && ns.all (fun x => scope.names.lookup x == some .local) && cs.all (fun x => scope.names.lookup x == some .free)
theorem zip_rev {w : Wd} {ns : List Str} {vs : List V} {ys : List Value} (hn : ns.Nodup) (r : VRels w vs ys) {x : Str} {v : V} (e : (ns.zip vs).lookup x = some v) : ∃ y, (ns.zip ys).reverse.lookup x = some y ∧ VRel w v y := by
 obtain ⟨y, m, h⟩ := zip_slots r e
 refine ⟨y, ?_, h⟩
 have nd : ((ns.zip ys).reverse.map (·.1)).Nodup := by rw [List.map_reverse]; exact (List.reverse_perm _).nodup_iff.mpr (zip_nodup ns ys hn)
 exact lookup_of_nodup nd (List.mem_reverse.mpr m)
section
variable {C : Ct} {n : Nat} {env : Env} {σ σ' σ1 : Loc} {H H' H0 H1 H2 H3 : List HObj} {pos p0 pos' apos p : Pos} {k : Nat} {x y name id : Str} {v v1 v2 v3 : V} {e e1 e2 e3 : PySem.Expr}
 {q : Str} {params : Arguments} {body : PySem.Expr} {scope : Scope} {caps : List (Str × V)} {m : Nat} {hm : caps.all (fun p => p.2.lowOk m) = true} {ns : List Str} {args : List V} {t : Nat} {P c : Addr}
theorem Fn.lam (hok : lamOk scope ns (caps.map (·.1)) = true) (hn : ns.Nodup) (hb : ∀ clos pm cd ctv xs, xs.length = args.length → bindArgs (kla_fn "<lambda>" q params body scope clos pm cd ctv) ⟨xs, []⟩ = pure (ns.zip xs))
  (hbody : ∀ env : Env, env.scope = scope → Ev C n env (ns.zip args ++ caps) H body H' v) : Fn C (n + 1) (.sem (lamA C.h₀ q params body scope caps m hm)) args [] H H' v := by
 refine FnC.fn fun A w R' g xs ks R B rg rx rk K => ?_
 cases rk.inv0
 have h := rg.inv
 obtain ⟨f, c, ctv, pm, clos, rfl, nf, e, hc, nd, hp, hv⟩ := h
 simp only [lamOk, Bool.and_eq_true, beq_iff_eq, Bool.not_eq_true', List.all_eq_true, bne_iff_ne, ne_eq] at hok
 obtain ⟨⟨⟨⟨⟨hkd, hco⟩, hgen⟩, hcell⟩, hloc⟩, hfree⟩ := hok
 refine kla_callFunE R.lim e rfl hco hgen rfl hc.rec ?_
 rw [show ((([] : List (Str × V)).map (·.1)).zip ([] : List Value)) = [] from rfl, hb _ _ _ _ xs rx.length]
 refine wpAny_pure (wpAny_newFunctionEnv hcell (fun z hz => hloc z.1 (map_fst_zip_sub ns xs z.1 (List.mem_map_of_mem (f := (·.1)) hz))) (fun h₁ hns hsb => ?_) hkd)
 have hk₁ : ∀ b o, w.s.heap.get? b = some o → h₁.get? b = some o := fun b o e => hsb.extBut b o (Nat.ne_of_lt (Heap.lt_size e)) (Heap.get?_push_of_some _ e)
 refine ⟨(C.lim.keeps B.stays).keeps hk₁, ?_⟩
 generalize henv : newEnv scope w.s.heap.objs.size mainGlobals clos (q ++ ".<locals>.") (some f) (.ref c) none builtinsNs = env
 have es : env.scope = scope := by rw [← henv]; rfl
 have el : env.locals = w.s.heap.objs.size := by rw [← henv]; rfl
 have ec : env.cells = clos := by rw [← henv]; rfl
 have X1 : Ext w ⟨w.ρ, w.π, { w.s with heap := h₁, toks := w.s.toks + (ns.zip xs).length }⟩ := ⟨rfl, hk₁, rfl, rfl, rfl, Nat.le_add_right _ _⟩
 have fresh : w.h.get? w.s.heap.objs.size = none := by
  cases z : w.h.get? w.s.heap.objs.size with
  | none => rfl
  | some o => exact absurd (Heap.lt_size z) (Nat.lt_irrefl _)
 have kof : ∀ x, env.kindOf x = scope.names.lookup x := fun x => by show env.scope.names.lookup x = _; rw [es]
 have F1 : FSt C ⟨w.ρ, w.π, { w.s with heap := h₁, toks := w.s.toks + (ns.zip xs).length }⟩ env (ns.zip args ++ caps) := by
  refine ⟨fun a ha => ?_, by rw [← henv]; rfl, by rw [← henv]; rfl, by rw [es]; exact hkd, ⟨_, by rw [el]; exact hns, fun x v ex => ?_⟩, by rw [el]; exact B.fresh fresh, fun p hpm => ?_, by rw [ec]; exact nd, fun x hx => ?_, fun a ha hπ => ?_⟩
  ·rcases List.mem_cons.mp ha with rfl | ha
   ·rw [el]
    cases z : C.h₀.get? w.s.heap.objs.size with
    | none => rfl
    | some o => have := B.stays _ o z; exact nomatch fresh.symm.trans this
   ·rw [ec] at ha
    obtain ⟨p, hpm, rfl⟩ := List.mem_map.mp ha
    exact (hp p hpm).2.2.1
  ·rw [List.lookup_append] at ex
   cases hz : (ns.zip args).lookup x with
   | some v' =>
    rw [hz] at ex
    have : v' = v := by simpa using ex
    subst this
    obtain ⟨y, h1, h2⟩ := zip_rev hn rx hz
    refine ⟨y, .inl ⟨?_, h1⟩, h2.ext X1⟩
    rw [kof]; exact hloc x (map_fst_zip_sub ns args x (List.mem_map_of_mem (f := (·.1)) (mem_of_lookup hz)))
   | none =>
    rw [hz] at ex
    have ex' : caps.lookup x = some v := by simpa using ex
    obtain ⟨c, y, h1, h2, h3⟩ := hv x v ex'
    obtain ⟨o, ho, hd⟩ := h2
    refine ⟨y, .inr ⟨.inr ?_, c, by rw [ec]; exact h1, o, hk₁ _ _ ho, hd⟩, h3.ext X1⟩
    rw [kof]; exact hfree x (List.mem_map_of_mem (f := (·.1)) (mem_of_lookup ex'))
  ·rw [ec] at hpm
   obtain ⟨h1, h2, h3, v₀, o, ho, hd⟩ := hp p hpm
   exact ⟨h2, v₀, o, hk₁ _ _ ho, hd⟩
  ·rw [kof] at hx
   exact absurd rfl (hcell (x, .cell) (mem_of_lookup hx))
  ·obtain ⟨_, o, ho⟩ := B.pins a hπ
   rcases List.mem_cons.mp ha with rfl | ha
   ·rw [el] at ho; exact nomatch fresh.symm.trans ho
   ·obtain ⟨p, hpm, rfl⟩ := List.mem_map.mp ha
    obtain ⟨hpm, hk⟩ := List.mem_filter.mp hpm
    rw [kof] at hk
    exact absurd rfl (hcell (p.1, .cell) (mem_of_lookup (beq_iff_eq.mp hk)))
 refine kla_codeExpr (hbody env es _ ⟨w.ρ, w.π, { w.s with heap := h₁, toks := w.s.toks + (ns.zip xs).length }⟩ _ _ R.deeper (B.ext X1) F1 fun w2 y S2 B2 F2 r2 => K w2 y (X1.step.trans S2) B2 r2)
theorem tab_code {fl : Nat} {nm : Str} {fb : FuncBody} (hH : H[t]? = some (.sem (tabA t P q))) (hcd : env.code = .ref c) (CH : CodeHd C.h₀ c P) {A : Around} {w : Wd} {Q E : Value → Shared → Prop} (B : BSt C w H)
  (K : ∀ w' c', Step [] w w' → BSt C w' H → CodeOk w' c' q → Q (.ref c') w'.s) : wpAny C.M A (functionCode env pos fl nm q params scope fb) Q E w.s := by
 obtain ⟨a, o, ha, ho, hP0, ps, rfl, tr, among⟩ := B.sem hH
 cases ha.symm.trans hP0
 cases hf : codeAmong pos ps.toList with
 | some cv =>
  obtain ⟨c', rfl, ok⟩ := among pos cv hf
  exact wpAny_functionCode_hit hcd ((CH.keeps B.stays).code ho tr) hf (K w c' (Step.refl _ _) B ok)
 | none =>
  refine wpAny_with_toks (Nat.le_refl _) (wpAny_functionCodeX hcd ((CH.keeps B.stays).code ho tr) ((CH.keeps B.stays).tab ho) hf fun c' h' tk hx hge hlt q_ hrec htb hnew htk => ?_)
  have fresh : w.h.get? c' = none := by
   cases z : w.h.get? c' with
   | none => rfl
   | some o => exact absurd (Heap.lt_size z) (Nat.not_lt.mpr hge)
  have ok : ∀ w' : Wd, w'.ρ = w.ρ → w'.h = h' → CodeOk w' c' q := fun w' e1 e2 => by
   obtain ⟨c2, o, vs, tq, ec, g1, g2, g3⟩ := hrec
   cases ec
   obtain ⟨P', _, _, ⟨o', vs', k1, k2, _⟩, _⟩ := hnew
   rw [g1] at k1; cases k1
   exact ⟨by rw [e1]; exact B.fresh fresh, o, vs, tq, by rw [e2]; exact g1, k2, g2, g3⟩
  have q1 := B.setK (s' := { w.s with heap := h', toks := tk }) (o := .sem (tabA t P q)) ha (fun b ob n e => hx b ob n e) rfl rfl htk ⟨_, htb.2⟩ (fun S => .sem htb.2 ⟨ha, _, rfl, by
    rw [show (ps ++ #[rawInt pos.line, rawInt pos.col, Value.ref c']).toList = ps.toList ++ [rawInt pos.line, rawInt pos.col, .ref c'] by simp]
    exact TriplesOk_snoc _ _ _ _ tr, fun pos' v e => by
    rw [show (ps ++ #[rawInt pos.line, rawInt pos.col, Value.ref c']).toList = ps.toList ++ [rawInt pos.line, rawInt pos.col, .ref c'] by simp] at e
    rcases codeAmong_more _ tr e with e | rfl
    ·obtain ⟨a, h1, h2⟩ := among pos' v e
     exact ⟨a, h1, h2.step .nil S⟩
    ·exact ⟨c', rfl, ok _ rfl rfl⟩⟩) (fun P' e => by cases e; exact B.tops t _ hH)
  have eH : H.set t (.sem (tabA t P q)) = H := by
   obtain ⟨hl, he⟩ := List.getElem?_eq_some_iff.mp hH
   rw [← he]; exact List.set_getElem_self hl
  rw [eH] at q1
  exact K ⟨w.ρ, w.π, _⟩ c' q1.2 q1.1 (ok _ rfl rfl)
theorem Lam.core {clos : List (Str × Addr)} {bm : Addr} {ob : Obj} (hH : H[t]? = some (.sem (tabA t P q))) (hcd : env.code = .ref c) (hq : env.qual ++ "<lambda>" = q) (CH : CodeHd C.h₀ c P)
  (b1 : C.mg "__builtins__" = some (.ref bm)) (b2 : bm ≠ builtinsNs) (b3 : C.h₀.get? bm = some ob) (b4 : ob.cls = .type "module") (b5 : ob.dict = some builtinsNs) (b6 : ob.data = .plain)
  (hdef : defaultsOf params env = ([], [])) (hcl : closureFor scope env = pure clos) {A : Around} {w : Wd} {Q E : Value → Shared → Prop} (B : BSt C w H) (F : FSt C w env σ)
  (K : ∀ w' f c' ctv pm, Step [] w w' → BSt C w' H → f ∉ w'.ρ → w'.h.get? f = some (lamObj q params body scope clos pm (.ref c') ctv) → CodeOk w' c' q → Q (.ref f) w'.s) :
  wpAny C.M A (eval (.Lambda params body scope pos) env) Q E w.s := by
 refine kla_eval hdef ?_
 rw [hq, makeFunction_eq]
 simp only [List.zip_nil_right, List.filterMap_nil, List.isEmpty_nil, if_true, pure_bind]
 unfold makeTail
 rw [hcl, F.glob]
 refine wpAny_bind (wpAny_pure ?_)
 have last : ∀ (w1 : Wd) (c' : Addr) (ctv : Value), Step [] w w1 → BSt C w1 H → CodeOk w1 c' q →
   wpAny C.M A (newObj (.type "function") (.func (kla_fn "<lambda>" q params body scope clos ((C.mg "__name__").getD .none) (.ref c') ctv))) Q E w1.s := fun w1 c' ctv S1 B1 ok => by
  refine wpAny_newObj_type ?_ (by size_fits)
  have X : Ext w1 ⟨w1.ρ, w1.π, { w1.s with heap := w1.s.heap.push (lamObj q params body scope clos ((C.mg "__name__").getD .none) (.ref c') ctv) }⟩ := Ext.push _
  refine K ⟨w1.ρ, w1.π, _⟩ w1.s.heap.objs.size c' ctv _ (S1.trans X.step) (B1.ext X) (B1.fresh ?_) (Heap.get?_push_size _ rfl) (ok.step .nil X.step)
  cases z : w1.h.get? w1.s.heap.objs.size with
  | none => rfl
  | some o => exact absurd (Heap.lt_size z) (Nat.lt_irrefl _)
 cases clos with
 | nil =>
  simp only [List.isEmpty_nil, if_true]
  refine wpAny_bind (wpAny_pure ?_)
  refine wpAny_bind (tab_code hH hcd CH B fun w1 c' S1 B1 ok => ?_)
  have hg := C.g.keeps B1.stays
  refine wpAny_bind (wpAny_builtinsFor hg b1 b2 (B1.stays _ _ b3) b4 b5 b6 ?_)
  refine wpAny_bind (wpAny_nsGet hg ?_)
  exact wpAny_bind (wpAny_pure (last w1 c' _ S1 B1 ok))
 | cons r l =>
  simp only [List.isEmpty_cons, Bool.false_eq_true, if_false]
  refine wpAny_bind (wpAny_newTextTuple ?_)
  have X0 : Ext w ⟨w.ρ, w.π, { w.s with heap := w.s.heap.push { cls := .type "tuple", data := .seq (((r :: l).mergeSort fun a b => decide (a.1.cps.toList ≤ b.1.cps.toList)).map (Value.ref ·.2)).toArray } }⟩ := Ext.push _
  refine wpAny_bind (tab_code hH hcd CH (B.ext X0) fun w1 c' S1 B1 ok => ?_)
  have hg := C.g.keeps B1.stays
  refine wpAny_bind (wpAny_builtinsFor hg b1 b2 (B1.stays _ _ b3) b4 b5 b6 ?_)
  refine wpAny_bind (wpAny_nsGet hg ?_)
  exact wpAny_bind (wpAny_pure (last w1 c' _ (X0.step.trans S1) B1 ok))
noncomputable def V.pl : V → Bool
 | .ref _ => true
 | v => v.dat
theorem VRel.pl {w : Wd} {π : List Addr} {v : V} {y : Value} (h : v.pl = true) (r : VRel w v y) : VRel ⟨w.ρ, π, w.s⟩ v y := by
 cases v with
 | ref i => obtain ⟨a, rfl, e⟩ := r.inv; exact .ref e
 | _ => exact r.dat (w := w) (w' := ⟨w.ρ, π, w.s⟩) rfl (fun q_ h => h) h
theorem VRels.pl {w : Wd} {π : List Addr} {l : List V} {ys : List Value} (h : l.all V.pl = true) (r : VRels w l ys) : VRels ⟨w.ρ, π, w.s⟩ l ys := r.all fun v m q_ q => q.pl (List.all_eq_true.mp h v m)
theorem pin_pl {vs : List V} (h : vs.all V.pl = true) : ∀ (w : Wd) π ys, VRels w vs ys → VRels ⟨w.ρ, π, w.s⟩ vs ys := fun w π ys r => r.pl h
theorem pin_rng {a b : Int} : ∀ (w : Wd) π ys, VRels w [.rng a b] ys → VRels ⟨w.ρ, π, w.s⟩ [.rng a b] ys := fun w π ys r => by
 obtain ⟨y, rfl, h⟩ := r.inv1
 have h := h.inv; exact .cons (.sem h) .nil
theorem BSt.repin {w : Wd} {π : List Addr} (B : BSt C w H) (hp : ∀ a ∈ π, a ∉ w.ρ ∧ ∃ o, w.h.get? a = some o) : BSt C ⟨w.ρ, π, w.s⟩ H := by
 refine ⟨B.stays, B.out, B.nodup, B.len, fun i a o e1 e2 => ?_, hp, B.tok, B.tops⟩
 cases B.obj i a o e1 e2 with
 | list e r d => exact .list e (r.dat (w := w) (w' := ⟨w.ρ, π, w.s⟩) rfl (fun q_ h => h) d) d
 | sem e p => exact .sem e (OAsrt.loose _ p)
set_option tactic.hygienic true in
theorem Ev.callLam {f u : V} {kx : Str} {es : List PySem.Expr} {vs : List V} {bm : Addr} {ob : Obj} {lp kp : Pos} {hu : [(x, u)].all (fun p => p.2.lowOk m) = true} (hf : Ev C n env σ H (.Name id p) H1 f) (hfd : f.pl = true) (ha : EvL C n env σ H1 pos (e :: es) H2 vs)
  (hH : H2[t]? = some (.sem (tabA t P q))) (hcd : env.code = .ref c) (hq : env.qual ++ "<lambda>" = q) (CH : CodeHd C.h₀ c P)
  (b1 : C.mg "__builtins__" = some (.ref bm)) (b2 : bm ≠ builtinsNs) (b3 : C.h₀.get? bm = some ob) (b4 : ob.cls = .type "module") (b5 : ob.dict = some builtinsNs) (b6 : ob.data = .plain)
  (hdef : defaultsOf params env = ([], [])) (hσ : σ.lookup x = some u) (hkd : env.kindOf x = some .cell) (hcl : ∀ c, env.cells.lookup x = some c → closureFor scope env = pure [(x, c)])
  (hc : Fn C n f vs [(kx, .sem (lamA C.h₀ q params body scope [(x, u)] m hu))] H2 H3 v) (hv : v.dat = true) (hvs : ∀ (w : Wd) π ys, VRels w vs ys → VRels ⟨w.ρ, π, w.s⟩ vs ys) (hk : Kp C f)
  (he : ∀ env : Env, starEach (e :: es) env = (false, eval e env) :: starEach es env)
  (hp : ∀ env : Env, ((backTo pos (starEach (e :: es) env)).any (·.1) || (backToKw pos (keywordEach [⟨some kx, .Lambda params body scope lp, kp⟩] env)).any (·.1.isNone)) = false) :
  Ev C n env σ H (.Call (.Name id p) (e :: es) [⟨some kx, .Lambda params body scope lp, kp⟩] pos) H3 v := by
 intro A w Q E R B F K
 refine wpAny_Call_Name_kw (hf A w _ E R B F fun w1 g S1 B1 F1 r1 => ?_)
 refine callWith_of (P := KpAt C g) (hp env) (fun q_ z => z) ?_
 have q1 := ha A w1 (fun ys s => wpAny C.M A (evalAll ((backToKw pos (keywordEach [⟨some kx, .Lambda params body scope lp, kp⟩] env)).map (·.2))) (fun zs s₂ => KpAt C g s₂.heap ∧ wpAny C.M A (PySem.call g ([] ++ ys) ([kx].zip zs)) (fun v s => Q v s) E s₂) E s) E R B1 F1 fun w2 ys S2 B2 F2 r2 => ?_
 ·rw [he env] at q1 ⊢
  exact evalArgs_kw rfl q1
 obtain ⟨mm, hn, hms⟩ := F2.ns
 refine kwAll_cons ?_
 obtain ⟨y0, hs0, _⟩ := hms x u hσ
 obtain ⟨c0, ec0⟩ : ∃ c0, env.cells.lookup x = some c0 := F2.full x hkd
 refine Lam.core hH hcd hq CH b1 b2 b3 b4 b5 b6 hdef (hcl c0 ec0) B2 F2 fun w3 fl c' ctv pm S3 B3 nf e3 ok => ?_
 refine kwAll_nil ⟨hk w3 H2 g B3 ((r1.step0 S2).step0 S3), ?_⟩
 have F3 := F2.step0 S3
 have BP : BSt C ⟨w3.ρ, env.cells.map (·.2) ++ w3.π, w3.s⟩ H2 := B3.repin fun a h => by
  rcases List.mem_append.mp h with h | h
  ·obtain ⟨p, hp, rfl⟩ := List.mem_map.mp h
   obtain ⟨h1, v₀, o, ho, _⟩ := F3.cells p hp
   exact ⟨h1, o, ho⟩
  ·exact B3.pins a h
 have hm0 : (x, c0) ∈ env.cells := mem_of_lookup ec0
 have lam : VRel ⟨w3.ρ, env.cells.map (·.2) ++ w3.π, w3.s⟩ (.sem (lamA C.h₀ q params body scope [(x, u)] m hu)) (.ref fl) := by
  obtain ⟨mm, hn, hms⟩ := F3.ns
  obtain ⟨y, hs, hy⟩ := hms x u hσ
  have cell : w3.h.IsCell c0 (some y) := by
   rcases hs with ⟨a, _⟩ | ⟨_, c, ec, h⟩
   ·exact nomatch hkd.symm.trans a
   ·obtain rfl := Option.some.inj (ec0.symm.trans ec); exact h
  refine .sem ⟨fl, c', ctv, pm, [(x, c0)], rfl, nf, e3, ok, by simp, fun p hp => ?_, fun z v e => ?_⟩
  ·rw [List.mem_singleton.mp hp]
   exact ⟨List.mem_append_left _ (List.mem_map_of_mem (f := (·.2)) hm0), (F3.cells _ hm0).1, F3.own c0 (.tail _ (List.mem_map_of_mem (f := (·.2)) hm0)), _, cell⟩
  ·simp only [List.lookup] at e
   split at e
   ·rename_i hz
    cases e
    have hz := beq_iff_eq.mp hz
    subst hz
    have hul : u.pl = true := by
     simp only [List.all_cons, List.all_nil, Bool.and_true] at hu
     cases u <;> first | rfl | exact hu
    exact ⟨c0, y, by simp [List.lookup], cell, hy.pl hul⟩
   ·cases e
 have q2 := hc A ⟨w3.ρ, env.cells.map (·.2) ++ w3.π, w3.s⟩ Q E g ys [.ref fl] R BP (((r1.step0 S2).step0 S3).pl hfd) (hvs _ _ _ (r2.step0 S3)) (.cons lam .nil) fun w4 y S4 B4 r4 => ?_
 ·exact q2
 have S5 : Step [] w3 ⟨w4.ρ, w3.π, w4.s⟩ := ⟨S4.rho, S4.keep, S4.live, S4.gens, S4.os, rfl, S4.tk⟩
 have B5 : BSt C ⟨w4.ρ, w3.π, w4.s⟩ H3 := B4.repin fun a h => B4.pins a (by rw [S4.pin]; exact List.mem_append_right _ h)
 have vpl : v.pl = true := by cases v <;> first | rfl | exact hv
 exact K ⟨w4.ρ, w3.π, w4.s⟩ y (((S1.trans S2).trans S3).trans S5) B5 (F3.step0 S5) (r4.pl vpl)
end
end
section
noncomputable def pw {α : Type} (n : Nat) (k : Nat → Int) : KasT α → (α → Prop) → Prop
 | .ret a, Q => Q a
 | .ask i j f, Q => i < n ∧ j < n ∧ pw n k (f (decide (k i < k j))) Q
theorem pw_bind {α β : Type} {n : Nat} {k : Nat → Int} {f : α → KasT β} {Q : β → Prop} {t : KasT α} : pw n k t (fun a => pw n k (f a) Q) → pw n k (t.bind f) Q := by
 induction t with
 | ret => exact id
 | ask i j g ih => exact fun h => ⟨h.1, h.2.1, ih _ h.2.2⟩
theorem kas_of_pw {α : Type} {n : Nat} {k : Nat → Int} {cmp : Nat → Nat → (Bool → Shared → Prop) → Shared → Prop} {Inv : Shared → Prop} {Q : α → Shared → Prop} {P : α → Prop}
  (hc : ∀ i j C s, i < n → j < n → Inv s → (∀ s', Inv s' → C (decide (k i < k j)) s') → cmp i j C s) (hQ : ∀ a s, Inv s → P a → Q a s) {t : KasT α} : ∀ {s : Shared}, Inv s → pw n k t P → t.kasWp cmp Q s := by
 induction t with
 | ret => exact fun hI h => hQ _ _ hI h
 | ask i j g ih => exact fun hI h => hc _ _ _ _ h.1 h.2.1 hI fun q_ hI' => ih _ hI' h.2.2
theorem pw_ask {α : Type} {n i j : Nat} {k : Nat → Int} {f : Bool → KasT α} {Q : α → Prop} (hi : i < n) (hj : j < n) (h1 : k i < k j → pw n k (f true) Q) (h2 : ¬ k i < k j → pw n k (f false) Q) : pw n k (.ask i j f) Q := by
 refine ⟨hi, hj, ?_⟩
 by_cases q : k i < k j
 ·rw [decide_eq_true q]; exact h1 q
 ·rw [decide_eq_false q]; exact h2 q
theorem pw_ite {α : Type} {n : Nat} {k : Nat → Int} {c : Prop} [Decidable c] {t u : KasT α} {Q : α → Prop} (h1 : c → pw n k t Q) (h2 : ¬ c → pw n k u Q) : pw n k (if c then t else u) Q := by
 split
 ·exact h1 ‹_›
 ·exact h2 ‹_›
noncomputable def pt (p : Array Nat) (i : Nat) : Nat := p.getD i 0
theorem pt_of {p q : Array Nat} {i j : Nat} (h : p[i]? = q[j]?) : pt p i = pt q j := by
 simp only [pt, Array.getD_eq_getD_getElem?, h]
theorem rev_in {p : Array Nat} {i j t u : Nat} (hj : j ≤ p.size) (h1 : i ≤ t) (h2 : t < j) (e : i + j = t + u + 1) : pt (kas_rev p i j) t = pt p u := by
 have q := (getElem?_mirror_all (i := i) hj t).trans (if_pos ⟨h1, h2⟩)
 rw [e, Nat.add_sub_cancel, Nat.add_sub_cancel_left] at q
 exact pt_of q
theorem rev_out {p : Array Nat} {i j t : Nat} (hj : j ≤ p.size) (h : i ≤ t → ¬ t < j) : pt (kas_rev p i j) t = pt p t :=
 pt_of ((getElem?_mirror_all (i := i) hj t).trans (if_neg fun z => h z.1 z.2))
theorem bub_at {p : Array Nat} {l d : Nat} (hs : l + d < p.size) : pt (bubble p (l + d) d) l = pt p (l + d) :=
 pt_of ((getElem?_bubble hs d (Nat.le_add_left _ _) l).trans (if_pos (Nat.add_sub_cancel _ _).symm))
theorem bub_up {p : Array Nat} {l d t : Nat} (hs : l + d < p.size) (h1 : l ≤ t) (h2 : t < l + d) : pt (bubble p (l + d) d) (t + 1) = pt p t := by
 have e := getElem?_bubble hs d (Nat.le_add_left _ _) (t + 1)
 rw [Nat.add_sub_cancel] at e
 exact pt_of (e.trans ((if_neg (Nat.ne_of_gt (Nat.lt_succ_of_le h1))).trans (if_pos ⟨Nat.lt_succ_of_le h1, h2⟩)))
theorem bub_out {p : Array Nat} {l d t : Nat} (hs : l + d < p.size) (h : t < l ∨ l + d < t) : pt (bubble p (l + d) d) t = pt p t := by
 have e := getElem?_bubble hs d (Nat.le_add_left _ _) t
 rw [Nat.add_sub_cancel] at e
 exact pt_of (e.trans ((if_neg (by lia)).trans (if_neg (by lia))))
structure Pre (n m : Nat) (p : Array Nat) : Prop where
 size : p.size = n
 perm : p.Perm (List.range n).toArray
 low : ∀ i, i < m → pt p i < m
 tail : ∀ i, m ≤ i → i < n → pt p i = i
noncomputable def ByS (s : Nat → Int) (a b : Nat) : Prop := s a < s b ∨ (s a = s b ∧ a < b)
section
variable {n m d : Nat} {k : Nat → Int} {p : Array Nat} {a b c : Nat}
theorem ByS.asym (h : ByS k a b) : ¬ ByS k b a := by unfold ByS at *; lia
theorem ByS.trans (h : ByS k a b) (h' : ByS k b c) : ByS k a c := by unfold ByS at *; lia
theorem ByS.le (h : ByS k a b) : k a ≤ k b := h.elim Int.le_of_lt fun q => Int.le_of_eq q.1
theorem ByS.of (h : k a ≤ k b) (h' : a < b) : ByS k a b := (Int.lt_or_eq_of_le h).imp_right fun e => ⟨e, h'⟩
theorem ByS.lt (h : ByS k a b) (h' : b ≤ a) : k a < k b := h.elim id fun q => absurd h' (Nat.not_le_of_lt q.2)
noncomputable def Mon (R : Nat → Nat → Prop) (m : Nat) (p : Array Nat) : Prop := ∀ i j, i < j → j < m → R (pt p i) (pt p j)
noncomputable abbrev Asc (k : Nat → Int) (m : Nat) (p : Array Nat) : Prop := Mon (ByS k) m p
noncomputable abbrev Dsc (k : Nat → Int) (m : Nat) (p : Array Nat) : Prop := Mon (fun a b => ByS k b a) m p
theorem Mon.succ {R : Nat → Nat → Prop} (h : Mon R m p) (h' : ∀ i, i < m → R (pt p i) (pt p m)) : Mon R (m + 1) p := fun i j h1 h2 => by
 rcases Nat.lt_succ_iff_lt_or_eq.mp h2 with q | rfl
 ·exact h i j h1 q
 ·exact h' i h1
theorem Mon.rev {R : Nat → Nat → Prop} (hm : m ≤ p.size) (h : Mon R m p) : Mon (fun a b => R b a) m (kas_rev p 0 m) := fun i j h1 h2 => by
 obtain ⟨v, e⟩ := Nat.exists_eq_add_of_lt h2
 obtain ⟨x, rfl⟩ := Nat.exists_eq_add_of_lt h1
 rw [rev_in hm (Nat.zero_le _) h2 ((Nat.zero_add _).trans e), rev_in (u := v + x + 1) hm (Nat.zero_le _) (Nat.lt_trans h1 h2) (by lia)]
 exact h _ _ (by lia) (by lia)
theorem Pre.succ (h : Pre n m p) (hm : m < n) : Pre n (m + 1) p :=
 ⟨h.size, h.perm, fun i hi => (Nat.lt_succ_iff_lt_or_eq.mp hi).elim (fun q => Nat.lt_succ_of_lt (h.low i q)) fun e => Nat.lt_succ_of_le (Nat.le_of_eq (by rw [e]; exact h.tail m (Nat.le_refl _) hm)),
  fun i h1 h2 => h.tail i (Nat.le_of_succ_le h1) h2⟩
theorem Pre.turn {s : Nat} (h : Pre n m p) (hm : m ≤ n) (hs : ∀ i, s ≤ i → i < m → pt p i = i) : Pre n m (kas_rev p s m) := by
 have z : m ≤ p.size := h.size ▸ hm
 refine ⟨(kas_rev_size ..).trans h.size, (mirror_perm _ _ _ _).trans h.perm, fun i hi => ?_, fun i h1 h2 => (rev_out z fun q_ => Nat.not_lt_of_le h1).trans (h.tail i h1 h2)⟩
 by_cases q : s ≤ i
 ·obtain ⟨v, rfl⟩ := Nat.exists_eq_add_of_lt hi
  rw [rev_in (u := s + v) z q hi (by lia)]
  exact h.low _ (by lia)
 ·rw [rev_out z fun w => absurd w q]; exact h.low i hi
theorem Pre.rev (h : Pre n m p) (hm : m ≤ n) : Pre n m (kas_rev p 0 m) := by
 have z : m ≤ p.size := h.size ▸ hm
 refine ⟨(kas_rev_size ..).trans h.size, (mirror_perm _ _ _ _).trans h.perm, fun i hi => ?_, fun i h1 h2 => (rev_out z fun q_ => Nat.not_lt_of_le h1).trans (h.tail i h1 h2)⟩
 obtain ⟨v, e⟩ := Nat.exists_eq_add_of_lt hi
 rw [rev_in z (Nat.zero_le _) hi ((Nat.zero_add _).trans e)]
 exact h.low _ (by lia)
theorem asc_asc : ∀ (f b : Nat) {Q : Nat → Prop}, f + b + 1 = n → Pre n (b + 1) p → Asc k (b + 1) p → (∀ m, b ≤ m → m < n → Pre n (m + 1) p → Asc k (m + 1) p → (m + 1 < n → k (pt p (m + 1)) < k (pt p m)) → Q (m + 1)) → pw n k (kas_asc p f (b + 1)) Q := by
 intro f
 induction f with
 | zero => exact fun b Q e P S h => h b (Nat.le_refl _) (by lia) P S fun z => absurd z (by lia)
 | succ f ih =>
  intro b Q e P S h
  have hb : b + 1 < n := by lia
  have eb := P.tail _ (Nat.le_refl _) hb
  have lb := P.low b (Nat.lt_succ_self _)
  refine pw_ask (lt_of_eq_of_lt eb hb) (Nat.lt_trans lb hb) (fun q => h b (Nat.le_refl _) (Nat.lt_of_succ_lt hb) P S fun q_ => q) fun q =>
   ih (b + 1) (by lia) (P.succ hb) (S.succ fun i hi => ?_) fun m h1 => h m (Nat.le_of_succ_le h1)
  have base : ByS k (pt p b) (pt p (b + 1)) := .of (Int.not_lt.mp q) (lt_of_lt_of_eq lb eb.symm)
  rcases Nat.lt_succ_iff_lt_or_eq.mp hi with z | rfl
  ·exact (S i b z (Nat.lt_succ_self _)).trans base
  ·exact base
where
 lt_of_eq_of_lt {a b c : Nat} (h : a = b) (h' : b < c) : a < c := h ▸ h'
 lt_of_lt_of_eq {a b c : Nat} (h : a < b) (h' : b = c) : a < c := h' ▸ h
structure Fall (n : Nat) (k : Nat → Int) (d s : Nat) (p : Array Nat) : Prop where
 pre : Pre n (d + 1) p
 le : s ≤ d
 dn : d < n
 dsc : Dsc k (s + 1) p
 id : ∀ i, s ≤ i → i < n → pt p i = i
 low : ∀ i, i ≤ s → pt p i ≤ s
 eq : ∀ i, s ≤ i → i ≤ d → k i = k s
variable {s q : Nat}
theorem Fall.front (h : Fall n k d s p) {i : Nat} (hi : i < s) : k s < k (pt p i) := by
 have := h.dsc i s hi (Nat.lt_succ_self _)
 rw [h.id s (Nat.le_refl _) (Nat.lt_of_le_of_lt h.le h.dn)] at this
 exact this.lt (h.low i (Nat.le_of_lt hi))
theorem Fall.min (h : Fall n k d s p) {i : Nat} (hi : i ≤ d) : k d ≤ k (pt p i) := by
 rw [h.eq d h.le (Nat.le_refl _)]
 by_cases q : s ≤ i
 ·rw [h.id i q (Nat.lt_of_le_of_lt hi h.dn), h.eq i q hi]; exact Int.le_refl _
 ·exact Int.le_of_lt (h.front (Nat.lt_of_not_le q))
theorem Fall.turn (h : Fall n k d s p) : Pre n (d + 1) (kas_rev p s (d + 1)) ∧ Dsc k (d + 1) (kas_rev p s (d + 1)) ∧ ∀ i, i ≤ d → k d ≤ k (pt (kas_rev p s (d + 1)) i) := by
 have z : d + 1 ≤ p.size := h.pre.size ▸ h.dn
 have hi : ∀ i u, s ≤ i → i + u = d → pt (kas_rev p s (d + 1)) i = s + u := fun i u h1 e => by
  rw [rev_in (u := s + u) z h1 (by lia) (by lia)]
  exact h.id _ (Nat.le_add_right _ _) (by have := h.dn; lia)
 have lo : ∀ i, i < s → pt (kas_rev p s (d + 1)) i = pt p i := fun i q => rev_out z fun w => absurd w (Nat.not_le_of_lt q)
 have hk : ∀ i u, s ≤ i → i + u = d → k (s + u) = k s := fun i u h1 e => h.eq _ (Nat.le_add_right _ _) (by lia)
 refine ⟨h.pre.turn h.dn fun i h1 h2 => h.id i h1 (Nat.lt_of_lt_of_le h2 h.dn), fun i j h1 h2 => ?_, fun i h1 => ?_⟩
 ·by_cases qj : s ≤ j
  ·obtain ⟨v, ev⟩ := Nat.exists_eq_add_of_le (Nat.le_of_lt_succ h2)
   rw [hi j v qj ev.symm]
   by_cases qi : s ≤ i
   ·obtain ⟨x, rfl⟩ := Nat.exists_eq_add_of_lt h1
    have e2 : i + (v + x + 1) = d := by lia
    rw [hi i _ qi e2]
    exact .of (Int.le_of_eq ((hk _ v qj ev.symm).trans (hk i _ qi e2).symm)) (by lia)
   ·rw [lo i (Nat.lt_of_not_le qi)]
    exact .inl (hk j v qj ev.symm ▸ h.front (Nat.lt_of_not_le qi))
  ·rw [lo j (Nat.lt_of_not_le qj), lo i (by lia)]
   exact h.dsc i j h1 (by lia)
 ·by_cases qi : s ≤ i
  ·obtain ⟨u, e⟩ := Nat.exists_eq_add_of_le h1
   rw [hi i u qi e.symm, hk i u qi e.symm, h.eq d h.le (Nat.le_refl _)]; exact Int.le_refl _
  ·rw [lo i (Nat.lt_of_not_le qi)]; exact h.min h1
theorem Fall.turned (h : Fall n k d s p) (e : s + q = d) {G : Array Nat → Prop} (hG : ∀ p', Pre n (d + 1) p' → Dsc k (d + 1) p' → (∀ i, i ≤ d → k d ≤ k (pt p' i)) → G p') :
  (q > 0 → G (kas_rev p (d + 1 - (q + 1)) (d + 1))) ∧ (¬ q > 0 → G p) := by
 refine ⟨fun q_ => ?_, fun z => ?_⟩
 ·rw [show d + 1 - (q + 1) = s from e ▸ Nat.add_sub_cancel (n := s) (m := q + 1)]
  exact hG _ h.turn.1 h.turn.2.1 h.turn.2.2
 ·obtain rfl : s = d := by lia
  exact hG p h.pre h.dsc fun i hi => h.min hi
theorem dsc_dsc : ∀ (f d s q : Nat) (p : Array Nat) {Q : Array Nat × Nat × Nat → Prop}, f + d + 1 = n → s + q = d → Fall n k d s p → (∀ p' d' s' q', s' + q' = d' → Fall n k d' s' p' → Q (p', d' + 1, q')) → pw n k (kas_desc f p (d + 1) q) Q := by
 intro f
 induction f with
 | zero => exact fun d s q p Q q_ e F h => h p d s q e F
 | succ f ih =>
  intro d s q p Q e e' F h
  have hd : d + 1 < n := by lia
  have ec : pt p (d + 1) = d + 1 := F.id _ (Nat.le_succ_of_le F.le) hd
  have l0 : pt p d < n := Nat.lt_of_lt_of_le (F.pre.low d (Nat.lt_succ_self _)) F.dn
  have l1 : pt p (d + 1) < n := asc_asc.lt_of_eq_of_lt ec hd
  have ed : pt p d = d := F.id d F.le F.dn
  have e1 : (k (pt p (d + 1)) < k (pt p d)) = (k (d + 1) < k d) := by rw [ec, ed]
  have e2 : (k (pt p d) < k (pt p (d + 1))) = (k d < k (d + 1)) := by rw [ec, ed]
  refine pw_ask l1 l0 (fun q1 => ?_) fun q1 => pw_ask l0 l1 (fun q_ => h p d s q e' F) fun q2 => ih (d + 1) s (q + 1) p (by lia) (by lia) ?_ h
  ·have g := F.turned (q := q) e' (G := fun p' => pw n k (kas_desc f p' (d + 1 + 1) 0) Q) fun p' P D K => ih (d + 1) (d + 1) 0 p' (by lia) rfl
    ⟨P.succ hd, Nat.le_refl _, hd, D.succ fun i hi => .inl ?_, P.tail, fun i hi => ?_, fun i h1 h2 => Nat.le_antisymm h1 h2 ▸ rfl⟩ h
   ·show pw n k (if q > 0 then _ else _) Q
    exact pw_ite g.1 g.2
   ·rw [P.tail _ (Nat.le_refl _) hd]
    exact Int.lt_of_lt_of_le (e1.mp q1) (K i (Nat.le_of_lt_succ hi))
   ·exact Nat.le_of_lt_succ ((P.succ hd).low i (Nat.lt_succ_of_le hi))
  ·refine ⟨F.pre.succ hd, Nat.le_succ_of_le F.le, hd, F.dsc, F.id, F.low, fun i h1 h2 => ?_⟩
   rcases Nat.lt_succ_iff_lt_or_eq.mp (Nat.lt_succ_of_le h2) with z | rfl
   ·exact F.eq i h1 (Nat.le_of_lt_succ z)
   ·exact (Int.le_antisymm (Int.not_lt.mp fun z => q2 (e2.mpr z)) (Int.not_lt.mp fun z => q1 (e1.mpr z))).trans (F.eq d F.le (Nat.le_refl _))
theorem dsc_part {Q : Nat × Array Nat → Prop} (F : Fall n k d d p) (h : ∀ m p', 0 < m → m ≤ n → Pre n m p' → Asc k m p' → Q (m, p')) : pw n k (kas_descPart d n p) Q := by
 have hn := F.dn
 refine pw_bind (dsc_dsc (n - (d + 1)) d d 0 p (Nat.sub_add_cancel hn) rfl F fun p' d' s' q' e F' => ?_)
 have hd := F'.dn
 have g := F'.turned e (G := fun p'' => pw n k (kas_tail3 (d' + 1) n p'') Q) fun p'' P D q_ =>
  pw_bind (asc_asc (n - (d' + 1)) d' (Nat.sub_add_cancel hd) (P.rev hd) (D.rev (P.size ▸ hd)) fun m q_ h2 P2 A2 q_ => h _ _ (Nat.succ_pos _) h2 P2 A2)
 exact pw_ite g.1 g.2
theorem count_pw {Q : Nat × Array Nat → Prop} (h0 : 0 < n) (P0 : Pre n 0 p) (h : ∀ m p', 0 < m → m ≤ n → Pre n m p' → Asc k m p' → Q (m, p')) : pw n k (kas_count n p) Q := by
 refine pw_bind (asc_asc (n - 1) 0 (Nat.sub_add_cancel h0) (P0.succ h0) (fun i j h1 h2 => absurd h1 (by lia)) fun m q_ h2 P A hm => ?_)
 refine pw_ite (fun q_ => h _ p (Nat.succ_pos _) h2 P A) fun qn => ?_
 have hm1 : m + 1 < n := Nat.lt_of_le_of_ne h2 fun z => qn (beq_iff_eq.mpr z)
 have hm' := hm hm1
 have z : m + 1 ≤ p.size := P.size ▸ h2
 have er : ∀ p', Pre n (m + 1) p' → Dsc k (m + 1) p' → (∀ i, i < m + 1 → k (m + 1) < k (pt p' i)) → Fall n k (m + 1) (m + 1) p' := fun p' P D K =>
  ⟨P.succ hm1, Nat.le_refl _, hm1, D.succ fun i hi => .inl (by rw [P.tail _ (Nat.le_refl _) hm1]; exact K i hi), P.tail, fun i hi => Nat.le_of_lt_succ ((P.succ hm1).low i (Nat.lt_succ_of_le hi)), fun i h1 h2 => Nat.le_antisymm h1 h2 ▸ rfl⟩
 rw [P.tail _ (Nat.le_refl _) hm1] at hm'
 refine pw_ite (fun q_ => pw_ask (Nat.lt_of_lt_of_le (P.low 0 (Nat.succ_pos _)) h2) (Nat.lt_of_lt_of_le (P.low m (Nat.lt_succ_self _)) h2) (fun q_ => h _ p (Nat.succ_pos _) h2 P A) fun q => ?_) fun q1 => ?_
 ·refine dsc_part (er _ (P.rev h2) (A.rev z) fun i hi => ?_) h
  obtain ⟨v, e⟩ := Nat.exists_eq_add_of_lt hi
  rw [rev_in z (Nat.zero_le _) hi ((Nat.zero_add _).trans e)]
  refine Int.lt_of_lt_of_le hm' (Int.le_trans (Int.not_lt.mp q) ?_)
  rcases Nat.eq_zero_or_pos v with rfl | hv
  ·exact Int.le_refl _
  ·exact (A 0 v hv (by lia)).le
 ·obtain rfl : m = 0 := by lia
  refine dsc_part (er _ P (fun i j h1 h2 => absurd h1 (by lia)) fun i hi => ?_) h
  obtain rfl : i = 0 := by lia
  exact hm'
theorem place_pw (P : Pre n c p) (hc : c < n) (A : Asc k c p) : ∀ (f l r : Nat) {Q : Nat → Prop}, r ≤ l + f → l ≤ r → r ≤ c → (∀ i, i < l → k (pt p i) ≤ k (pt p c)) → (∀ i, r ≤ i → i < c → k (pt p c) < k (pt p i)) →
  (∀ l, l ≤ c → (∀ i, i < l → k (pt p i) ≤ k (pt p c)) → (∀ i, l ≤ i → i < c → k (pt p c) < k (pt p i)) → Q l) → pw n k (kas_place p c f l r) Q := by
 intro f
 induction f with
 | zero => exact fun l r Q h1 h2 h3 h4 h5 h => by obtain rfl := Nat.le_antisymm h1 h2; exact h _ h3 h4 h5
 | succ f ih =>
  intro l r Q h1 h2 h3 h4 h5 h
  refine pw_ite (fun z => ?_) fun z => ?_
  ·obtain rfl := Nat.le_antisymm z h2
   exact h _ h3 h4 h5
  ·have a1 : l ≤ (l + r) / 2 := by lia
   have a2 : (l + r) / 2 < r := by lia
   generalize (l + r) / 2 = m at a1 a2
   have hm := Nat.lt_of_lt_of_le a2 h3
   refine pw_ask (asc_asc.lt_of_eq_of_lt (P.tail c (Nat.le_refl _) hc) hc) (Nat.lt_trans (P.low m hm) hc)
    (fun q => ih l m (by lia) a1 (Nat.le_of_lt hm) h4 (fun i a b => ?_) h) fun q => ih (m + 1) r (by lia) a2 h3 (fun i a => ?_) h5 h
   ·rcases Nat.lt_or_eq_of_le a with z | rfl
    ·exact Int.lt_of_lt_of_le q (A m i z b).le
    ·exact q
   ·rcases Nat.lt_succ_iff_lt_or_eq.mp a with z | rfl
    ·exact Int.le_trans (A i m z hm).le (Int.not_lt.mp q)
    ·exact Int.not_lt.mp q
theorem bub_ok {l : Nat} (P : Pre n (l + d) p) (hc : l + d < n) (A : Asc k (l + d) p) (h1 : ∀ i, i < l → k (pt p i) ≤ k (pt p (l + d))) (h2 : ∀ i, l ≤ i → i < l + d → k (pt p (l + d)) < k (pt p i)) :
  Pre n (l + d + 1) (bubble p (l + d) d) ∧ Asc k (l + d + 1) (bubble p (l + d) d) := by
 have z : l + d < p.size := P.size ▸ hc
 have ec := P.tail _ (Nat.le_refl _) hc
 refine ⟨⟨(bubble_size ..).trans P.size, (bubble_perm _ _ _).trans P.perm, fun i hi => ?_, fun i a b => ?_⟩, fun i j a b => ?_⟩
 ·rcases Nat.lt_trichotomy i l with q | rfl | q
  ·rw [bub_out z (.inl q)]; exact Nat.lt_succ_of_lt (P.low i (Nat.lt_of_lt_of_le q (Nat.le_add_right _ _)))
  ·rw [bub_at z, ec]; exact Nat.lt_succ_self _
  ·obtain ⟨t, rfl⟩ := Nat.exists_eq_add_of_lt q
   rw [bub_up z (Nat.le_add_right _ _) (Nat.lt_of_succ_lt_succ hi)]; exact Nat.lt_succ_of_lt (P.low _ (Nat.lt_of_succ_lt_succ hi))
 ·rw [bub_out z (.inr a)]; exact P.tail i (Nat.le_of_succ_le a) b
 ·rcases Nat.lt_trichotomy j l with q | rfl | q
  ·rw [bub_out z (.inl (Nat.lt_trans a q)), bub_out z (.inl q)]; exact A i j a (Nat.lt_of_lt_of_le q (Nat.le_add_right _ _))
  ·rw [bub_out z (.inl a), bub_at z]
   exact .of (h1 i a) (ec.symm ▸ P.low i (Nat.lt_of_lt_of_le a (Nat.le_add_right _ _)))
  ·obtain ⟨t, rfl⟩ := Nat.exists_eq_add_of_lt q
   have hb := Nat.lt_of_succ_lt_succ b
   rw [bub_up (t := l + t) z (Nat.le_add_right _ _) hb]
   rcases Nat.lt_trichotomy i l with r | rfl | r
   ·rw [bub_out z (.inl r)]; exact A i _ (Nat.lt_of_lt_of_le r (Nat.le_add_right _ _)) hb
   ·rw [bub_at z]; exact .inl (h2 _ (Nat.le_add_right _ _) hb)
   ·obtain ⟨u, rfl⟩ := Nat.exists_eq_add_of_lt r
    have ha := Nat.lt_of_succ_lt_succ a
    rw [bub_up z (Nat.le_add_right _ _) (Nat.lt_trans ha hb)]
    exact A _ _ ha hb
theorem bin_pw : ∀ (f c : Nat) (p : Array Nat) {Q : Array Nat → Prop}, f + c = n → Pre n c p → Asc k c p → (∀ p', Pre n n p' → Asc k n p' → Q p') → pw n k (kas_bin f p c) Q := by
 intro f
 induction f with
 | zero => exact fun c p Q e P A h => by obtain rfl := (Nat.zero_add _).symm.trans e; exact h p P A
 | succ f ih =>
  intro c p Q e P A h
  have hc : c < n := by lia
  refine pw_bind (place_pw P hc A c 0 c (Nat.le_add_left _ _) (Nat.zero_le _) (Nat.le_refl _) (fun i a => absurd a (Nat.not_lt_zero _)) (fun i a b => absurd b (Nat.not_lt_of_le a)) fun l a b d => ?_)
  obtain ⟨x, rfl⟩ := Nat.exists_eq_add_of_le a
  have g := bub_ok P hc A b d
  rw [Nat.add_sub_cancel_left]
  exact ih _ _ (by lia) g.1 g.2 h
theorem sort_pw {Q : Array Nat → Prop} (h2 : 0 < n) (h : ∀ p', Pre n n p' → Asc k n p' → Q p') : pw n k (kas_sort n) Q := by
 have P0 : Pre n 0 (List.range n).toArray :=
  ⟨by simp, Array.Perm.refl _, fun i hi => absurd hi (Nat.not_lt_zero _), fun i q_ hi => by simp [pt, hi]⟩
 refine pw_bind (count_pw h2 P0 fun m p' h1 h2 P A => pw_ite (fun z => ?_) fun z => ?_)
 ·rw [show max m 1 = m from Nat.max_eq_left h1]
  exact bin_pw _ m p' (Nat.sub_add_cancel h2) P A h
 ·obtain rfl := Nat.le_antisymm h2 (Nat.le_of_not_lt z)
  exact h p' P A
end
end
section
noncomputable def epA (e : Nat) : OAsrt where
 P _ o := o = seqObj "list" #[] e
 mono _ _ h := h
 hard {w o vs T} h hd := by rw [h] at hd; cases hd
 top := 0
 low _ h := h
 loose h := h
noncomputable def Col (C : Ct) (n : Nat) (H : List HObj) (u : V) (l : List V) : Prop :=
 ∀ (A : Around) (w : Wd) (Q : List Value → Shared → Prop) (E : Value → Shared → Prop) (x : Value), Room A n → BSt C w H → VRel w u x → (∀ w' vs, Step [] w w' → BSt C w' H → VRels w' l vs → Q vs w'.s) → wpAny C.M A (collect x) Q E w.s
noncomputable def KeyLt (C : Ct) (n : Nat) (κ : SortKind) (a b : V) (H : List HObj) (v : Bool) : Prop :=
 ∀ (A : Around) (w : Wd) (Q : Bool → Shared → Prop) (E : Value → Shared → Prop) (x y : Value), Room A n → BSt C w H → VRel w a x → VRel w b y → (∀ w', Step [] w w' → BSt C w' H → Q v w'.s) → wpAny C.M A (keyLt' κ x y) Q E w.s
noncomputable def KeyKind (C : Ct) (κ : SortKind) (ks : List V) : Prop :=
 ∀ (A : Around) (w : Wd) (H : List HObj) (Q : SortKind → Shared → Prop) (E : Value → Shared → Prop) (vs : List Value), BSt C w H → VRels w ks vs → Q κ w.s → wpAny C.M A (keyKind' vs.toArray) Q E w.s
theorem VRels.getD {w : Wd} {l : List V} {vs : List Value} (r : VRels w l vs) {i : Nat} (hi : i < l.length) : VRel w (l.getD i .none) (vs.getD i Value.none) := by
 obtain ⟨x, h1, h2⟩ := r.get (List.getElem?_eq_getElem hi)
 rw [show l.getD i .none = l[i] by simp [hi], show vs.getD i Value.none = x by rw [List.getD_eq_getElem?_getD, h1]; rfl]
 exact h2
theorem VRels.picks {w : Wd} {l : List V} {vs : List Value} (r : VRels w l vs) : ∀ {p : List Nat}, (∀ i ∈ p, i < l.length) → VRels w (p.map fun i => l.getD i .none) (p.map fun i => vs.getD i Value.none)
 | [], _ => .nil
 | i :: p, h => .cons (r.getD (h i (.head _))) (VRels.picks r fun j m => h j (.tail _ m))
theorem item_zip {keys vs : List Value} (h : keys.length = vs.length) {i : Nat} (hi : i < vs.length) : kas_item (keys.toArray.zip vs.toArray) i = (keys.getD i Value.none, vs.getD i Value.none) := by
 unfold kas_item
 have h1 : i < keys.length := by lia
 have h2 : i < min keys.length vs.length := by lia
 simp [Array.getD, h1, hi, h2]
theorem pre_mem {n : Nat} {p : Array Nat} (P : Pre n n p) : ∀ i ∈ p.toList, i < n := fun i m => by
 have := (P.perm.mem_iff (a := i)).mp (Array.mem_toList_iff.mp m)
 simpa using this
section
variable {C : Ct} {n : Nat} {H : List HObj} {f u : V} {l ks l' : List V} {κ : SortKind} {rk : Nat → Int}
theorem Col.list (h : Lsy H u l) (hz : l.length ≤ sizeLine) : Col C n H u l := by
 intro A w Q E x R B rx K
 obtain ⟨q, vs, m, rfl, ho, r⟩ := h.at B rx
 have hz' : vs.length ≤ sizeLine := by rw [r.length]; exact hz
 refine collect_list (isList_of ho) ?_ hz'
 have hk : ∀ b ob, w.s.heap.get? b = some ob → ((w.s.heap.push (seqObj "list" #[] 0)).update w.s.heap.objs.size (Obj.mapSeq (· ++ vs.toArray))).get? b = some ob := fun b ob e => by
  have hlt : b < w.s.heap.objs.size := Heap.lt_size e
  rw [Heap.get?_update_ne _ _ _ _ (Nat.ne_of_lt hlt)]
  exact Heap.get?_push_of_some _ e
 have X : Ext w ⟨w.ρ, w.π, { w.s with heap := (w.s.heap.push (seqObj "list" #[] 0)).update w.s.heap.objs.size (Obj.mapSeq (· ++ vs.toArray)) }⟩ := ⟨rfl, hk, rfl, rfl, rfl, Nat.le_refl _⟩
 exact K ⟨w.ρ, w.π, _⟩ vs X.step (B.ext X) (r.ext X)
theorem KeyLt.int {a b : Int} : KeyLt C n oneType' (.int a) (.int b) H (decide (a < b)) := by
 intro A w Q E x y R B rx ry K
 obtain ⟨_, rfl⟩ := rx.inv; obtain ⟨_, rfl⟩ := ry.inv
 exact kat_lt_int (K w (Step.refl _ _) B)
theorem VRels.intsAre {w : Wd} : ∀ {ns : List Int} {vs : List Value}, VRels w (ns.map .int) vs → IntsAre vs ns
 | [], _, .nil => .nil
 | n :: ns, _, .cons a b => by
  obtain ⟨t, rfl⟩ := a.inv; exact .cons n t b.intsAre
theorem KeyKind.int {ns : List Int} (h : 2 ≤ ns.length) : KeyKind C oneType' (ns.map .int) := by
 intro A w H Q E vs B r K
 have hi := r.intsAre
 have hl := hi.length
 match vs, hi, hl with
 | v₁ :: v₂ :: vs, hi, _ => rw [keyKind_ints hi]; exact wpAny_pure K
 | [], _, hl => simp at hl; lia
 | [_], _, hl => simp at hl; lia
theorem sort_run {β : Type} {T : SortSt → Sem β} {A : Around} {w : Wd} {keys vs : List Value} {Q : β → Shared → Prop} {E : Value → Shared → Prop} (hn : l.length < 64) (hkl : ks.length = l.length) (hr : Room A n) (B : BSt C w H) (rk' : VRels w ks keys) (rv : VRels w l vs)
  (hkind : 2 ≤ ks.length → KeyKind C κ ks) (hlt : ∀ i j, i < l.length → j < l.length → KeyLt C n κ (ks.getD i .none) (ks.getD j .none) H (decide (rk i < rk j)))
  (hout : ∀ p, Pre l.length l.length p → Asc rk l.length p → l' = p.toList.map fun i => l.getD i .none)
  (K : ∀ w' st, Step [] w w' → BSt C w' H → failedOf st = none → (arrOf st).size = vs.length → VRels w' l' ((arrOf st).map (·.2)).toList → wpAny C.M A (T st) Q E w'.s) :
  wpAny C.M A (do
   let kind ← if vs.toArray.size < 2 then pure general' else keyKind' keys.toArray
   let ((), s) ← (if vs.toArray.size < 2 then pure () else sortRuns').run (SortSt.mk' kind (keys.toArray.zip vs.toArray) #[] 7 none)
   T s) Q E w.s := by
 have h1 := rk'.length
 have h2 := rv.length
 have hz : (keys.toArray.zip vs.toArray).size = vs.length := by rw [Array.size_zip, List.size_toArray, List.size_toArray]; lia
 have fin : ∀ (w' : Wd) (p : Array Nat) (st : SortSt), Step [] w w' → BSt C w' H → Pre l.length l.length p → Asc rk l.length p → failedOf st = none → arrOf st = p.map (kas_item (keys.toArray.zip vs.toArray)) → wpAny C.M A (T st) Q E w'.s := by
  intro w' p st S B' P As hf ha
  refine K w' st S B' hf (by rw [ha, Array.size_map, P.size, h2]) ?_
  have e : ((arrOf st).map (·.2)).toList = p.toList.map fun i => vs.getD i Value.none := by
   rw [ha, Array.toList_map, Array.toList_map, List.map_map]
   refine List.map_congr_left fun i hi => ?_
   have := pre_mem P i hi
   show (kas_item (keys.toArray.zip vs.toArray) i).2 = _
   rw [item_zip (by lia) (by lia)]
  rw [e, hout p P As]
  exact (rv.step0 S).picks (pre_mem P)
 by_cases q : vs.toArray.size < 2
 ·rw [if_pos q, if_pos q]
  refine wpAny_bind (wpAny_pure ?_)
  dsimp only
  rw [StateT.run_pure]
  refine wpAny_bind (wpAny_pure ?_)
  rw [List.size_toArray] at q
  refine fin w (List.range l.length).toArray _ (Step.refl _ _) B ⟨by simp, Array.Perm.refl _, fun i hi => by simp [pt, hi], fun i q_ hi => by simp [pt, hi]⟩ (fun i j a b => by lia) rfl ?_
  have := kas_range (keys.toArray.zip vs.toArray)
  rw [hz, h2] at this
  exact this.symm
 ·rw [if_neg q, if_neg q]
  rw [List.size_toArray] at q
  refine wpAny_bind (hkind (by lia) A w H _ E keys B rk' ?_)
  have run := kas_runs (prog := C.prog) (w := C.w) (A := A) (E := E) (κ := κ) (it := keys.toArray.zip vs.toArray) (n := l.length) (s := w.s)
   (Q := fun q_ st s' => wpAny C.M A (T st) Q E s') (G := fun p s' => Pre l.length l.length p ∧ Asc rk l.length p ∧ ∃ w', w'.s = s' ∧ Step [] w w' ∧ BSt C w' H) (by lia) hn
   (fun p' st' s' hp ha hf hG => by
    obtain ⟨P, As, w', rfl, S, B'⟩ := hG
    exact fin w' p' st' S B' P As hf ha)
   (kas_of_pw (n := l.length) (k := rk) (Inv := fun s' => ∃ w', w'.s = s' ∧ Step [] w w' ∧ BSt C w' H) (P := fun p => Pre l.length l.length p ∧ Asc rk l.length p)
    (fun i j Cc s hi hj hI hK => by
     obtain ⟨w', rfl, S, B'⟩ := hI
     show wpAny C.M A (keyLt' κ (kas_item _ i).1 (kas_item _ j).1) Cc _ w'.s
     rw [item_zip (by lia) (by lia), item_zip (by lia) (by lia)]
     exact hlt i j hi hj A w' Cc _ _ _ hr B' ((rk'.step0 S).getD (by lia)) ((rk'.step0 S).getD (by lia)) fun w2 S2 B2 => hK w2.s ⟨w2, rfl, S.trans S2, B2⟩)
    (fun a s hI hP => ⟨hP.1, hP.2, hI⟩) ⟨w, rfl, Step.refl _ _, B⟩ (sort_pw (by lia) fun p P As => ⟨P, As⟩))
  have est : kas_st κ (keys.toArray.zip vs.toArray) (List.toArray (List.range l.length)) = SortSt.mk' κ (keys.toArray.zip vs.toArray) #[] 7 none := by
   have := kas_range (keys.toArray.zip vs.toArray)
   rw [hz, h2] at this
   show SortSt.mk' κ _ _ _ _ = _
   rw [this]
  rw [est] at run
  exact wpAny_bind (wpAny_mono run (fun r s' h => h) fun q_ q_ h => h)
set_option maxHeartbeats 2000000 in
theorem sort_go (hn : l.length < 64) (hdk : datL ks = true) (hkl : ks.length = l.length)
  (hkey : ∀ K (i : Nat) v kv, l[i]? = some v → ks[i]? = some kv → Fn C n f [v] [] (H ++ K) (H ++ K) kv) (hkind : 2 ≤ ks.length → KeyKind C κ ks)
  (hlt : ∀ K i j, i < l.length → j < l.length → KeyLt C n κ (ks.getD i .none) (ks.getD j .none) (H ++ K) (decide (rk i < rk j)))
  (hout : ∀ p, Pre l.length l.length p → Asc rk l.length p → l' = p.toList.map fun i => l.getD i .none) (hdl' : datL l' = true)
  {A : Around} (R : Room A n) {wB : Wd} {D kS : Addr} {e1 : Nat} {q : Addr} {vs : List Value} (r2 : VRel wB f (.ref q)) (rv : VRels wB l vs) (BB : BSt C wB (H ++ [.sem (epA e1), .list []])) (iD : wB.ρ[H.length]? = some D) (iS : wB.ρ[H.length + 1]? = some kS)
  {Qr : Shared → Prop} {E : Value → Shared → Prop} (K : ∀ w', Step [] wB w' → BSt C w' (H ++ [.list l', .list []]) → w'.ρ[H.length]? = some D → Qr w'.s) :
  wpAny C.M A (ksk_rest D (.ref q) false vs.toArray e1 (.ref kS)) (fun fin s' => ∃ v, fin = .done (.ret v) ∧ Qr s') E wB.s := by
 have hlen := rv.length
 have set1 : ∀ o : HObj, ∀ o' : HObj, ∀ o'' : HObj, (H ++ [o, o']).set (H.length + 1) o'' = H ++ [o, o''] := fun o o' o'' => by simp [List.set_append]
 have set0 : ∀ o : HObj, ∀ o' : HObj, ∀ o'' : HObj, (H ++ [o, o']).set H.length o'' = H ++ [o'', o'] := fun o o' o'' => by simp [List.set_append]
 have at1 : ∀ o o' : HObj, (H ++ [o, o'])[H.length + 1]? = some o' := fun o o' => by simp
 have at0 : ∀ o o' : HObj, (H ++ [o, o'])[H.length]? = some o := fun o o' => by simp
 unfold ksk_rest
 refine wpAny_bind (wpAny_rule ?_)
 first
  | rw [List.forIn_toArray]
  | (rw [← Array.forIn_toList]; simp only [List.toList_toArray])
 refine wpAny_bind (ksk_fold (fun i s' => ∃ w', w'.s = s' ∧ Step [] wB w' ∧ BSt C w' (H ++ [.sem (epA e1), .list (ks.take i)])) vs 0 wB.s ⟨wB, rfl, Step.refl _ _, by simpa using BB⟩ ?step ?done)
 case step =>
  rintro j y s' hy ⟨w', rfl, S', B'⟩
  simp only [Nat.zero_add] at B' ⊢
  have hj : j < vs.length := (List.getElem?_eq_some_iff.mp hy).1
  obtain ⟨v, hv⟩ : ∃ v, l[j]? = some v := ⟨_, List.getElem?_eq_getElem (by lia)⟩
  obtain ⟨kv, hkv⟩ : ∃ kv, ks[j]? = some kv := ⟨_, List.getElem?_eq_getElem (by lia)⟩
  obtain ⟨y', hy', ry⟩ := rv.get hv
  rw [hy] at hy'; cases hy'
  refine wpAny_bind (wpAny_attempt (hkey _ j v kv hv hkv A w' _ _ (.ref q) [y] [] R B' (r2.step0 S') (.cons (ry.step0 S') .nil) .nil fun w2 yk S2 B2 rk2 => ?_))
  dsimp only
  obtain ⟨a, vk, m, ha, ho, hr, hd⟩ := B2.get (at1 _ _)
  have ha' := S2.at (S'.at iS)
  rw [ha] at ha'; cases ha'
  have hz : vk.length ≤ j := by rw [hr.length, List.length_take]; exact Nat.min_le_left _ _
  have ek : ks.take (j + 1) = ks.take j ++ [kv] := by rw [List.take_add_one, hkv]; rfl
  obtain ⟨c2, hc2⟩ : ∃ c2, (w2.s.heap.update kS (Obj.mapSeq (·.push yk))).get? kS = some (seqObj "list" (vk.toArray.push yk) c2) := ⟨_, get?_update_seq ho (·.push yk)⟩
  rw [show (vk.toArray.push yk) = (vk ++ [yk]).toArray by simp] at hc2
  have q1 := B2.set (s' := { w2.s with heap := w2.s.heap.update kS (Obj.mapSeq (·.push yk)) }) (o := .list (ks.take j ++ [kv])) ha (Heap.SameBut.update _ _ _) rfl rfl (Nat.le_refl _) ⟨_, hc2⟩
   (fun S => .list hc2 ((hr.step0 S).append (.cons (rk2.step0 S) .nil)) (by rw [datL_append, hd]; have := datL_iff.mp hdk kv (List.mem_of_getElem? hkv); simp [datL, this])) (fun P e => by cases e)
  rw [set1] at q1
  refine wpAny_bind (listUpdate_at ho rfl ?_ (by rw [List.size_toArray, sizeLine_eq]; lia) (Nat.le_trans (Nat.le_of_eq (Array.size_push ..)) (by rw [List.size_toArray, sizeLine_eq]; lia)))
  exact wpAny_pure ⟨rfl, ⟨w2.ρ, w2.π, _⟩, rfl, (S'.trans S2).trans q1.2, by rw [ek]; exact q1.1⟩
 case done =>
  rintro s' ⟨w', rfl, S', B'⟩
  rw [Nat.zero_add, List.take_of_length_le (by lia)] at B'
  obtain ⟨a, keys, m, ha, ho, hr, hd⟩ := B'.get (at1 _ _)
  have ha' := S'.at iS
  rw [ha] at ha'; cases ha'
  refine wpAny_bind (listItems_at ho rfl ?_)
  unfold ksk_end
  simp only [Bool.false_eq_true, if_false]
  refine sort_run (l' := l') (T := ksk_tail D false e1 (.ref kS)) hn hkl R B' hr (rv.step0 S') hkind (hlt _) hout fun w2 st S2 B2 hf hsz r' => ?_
  obtain ⟨a, keys2, m2, ha2, ho2, hr2, hd2⟩ := B2.get (at1 _ _)
  have hS2 := S2.at (S'.at iS)
  have hD2 := S2.at (S'.at iD)
  rw [ha2] at hS2; cases hS2
  have hkD : kS ≠ D := fun e => by
   subst e
   have h1 := (List.getElem?_eq_some_iff.mp ha2).1
   exact absurd ((List.getElem?_inj h1 B2.nodup).mp (ha2.trans hD2.symm)) (by lia)
  have hlen2 : keys2.length = ks.length := hr2.length
  unfold ksk_tail
  try dsimp only
  refine wpAny_bind (listUpdate_at ho2 rfl ?_ (by rw [List.size_toArray, sizeLine_eq]; lia) (Nat.zero_le _))
  obtain ⟨c2, hc2⟩ : ∃ c2, (w2.s.heap.update kS (Obj.mapSeq fun q_ => (#[] : Array Value))).get? kS = some (seqObj "list" #[] c2) := ⟨_, get?_update_seq ho2 fun q_ => #[]⟩
  have q1 := B2.set (s' := { w2.s with heap := w2.s.heap.update kS (Obj.mapSeq fun q_ => (#[] : Array Value)) }) (o := .list []) ha2 (Heap.SameBut.update _ _ _) rfl rfl (Nat.le_refl _) ⟨_, hc2⟩ (fun S => .list hc2 .nil rfl) (fun P e => by cases e)
  rw [set1] at q1
  obtain ⟨a0, o0, ha0, ho0, hp0⟩ := q1.1.sem (at0 _ _)
  have ha0' : a0 = D := by
   have := hD2
   have e : w2.ρ[H.length]? = some a0 := ha0
   rw [e] at this; cases this; rfl
  subst ha0'
  replace hp0 : o0 = seqObj "list" #[] e1 := hp0
  subst hp0
  refine wpAny_bind (wpAny_letGo ?_)
  refine wpAny_bind (seqEpoch_at ho0 rfl ?_)
  obtain ⟨c3, hc3⟩ : ∃ c3, ((w2.s.heap.update kS (Obj.mapSeq fun q_ => (#[] : Array Value))).update a0 (Obj.mapSeq fun q_ => (arrOf st).map (·.2))).get? a0 = some (seqObj "list" ((arrOf st).map (·.2)) c3) := ⟨_, get?_update_seq ho0 fun q_ => (arrOf st).map (·.2)⟩
  have hc3' : ((w2.s.heap.update kS (Obj.mapSeq fun q_ => (#[] : Array Value))).update a0 (Obj.mapSeq fun q_ => (arrOf st).map (·.2))).get? a0 = some (lstObj ((arrOf st).map (·.2)).toList c3) := hc3
  have q2 := q1.1.set (s' := { w2.s with heap := (w2.s.heap.update kS (Obj.mapSeq fun q_ => (#[] : Array Value))).update a0 (Obj.mapSeq fun q_ => (arrOf st).map (·.2)) }) (o := .list l') ha0 (Heap.SameBut.update _ _ _) rfl rfl (Nat.le_refl _) ⟨_, hc3⟩
   (fun S => .list hc3' ((r'.step0 q1.2).step0 S) hdl') (fun P e => by cases e)
  rw [set0] at q2
  refine wpAny_bind (listUpdate_at ho0 rfl ?_ (Nat.zero_le _) (by simp only [Bool.false_eq_true, if_false, Array.size_map, hsz]; rw [sizeLine_eq]; lia))
  rw [hf]
  simp only [bne_self_eq_false, Bool.false_eq_true, if_false]
  refine wpAny_pure ⟨_, rfl, ?_⟩
  exact K ⟨w2.ρ, w2.π, _⟩ (((S'.trans S2).trans q1.2).trans q2.2) q2.1 ha0
theorem Fn.sortedT (hcol : Col C (n + 1) H u l) (hg : ∀ (w : Wd) g, VRel w f g → ∃ q, g = .ref q) (hn : l.length < 64) (hdl : datL l = true) (hdk : datL ks = true) (hkl : ks.length = l.length)
  (hkey : ∀ K (i : Nat) v kv, l[i]? = some v → ks[i]? = some kv → Fn C n f [v] [] (H ++ K) (H ++ K) kv) (hkind : 2 ≤ ks.length → KeyKind C κ ks)
  (hlt : ∀ K i j, i < l.length → j < l.length → KeyLt C n κ (ks.getD i .none) (ks.getD j .none) (H ++ K) (decide (rk i < rk j)))
  (hout : ∀ p, Pre l.length l.length p → Asc rk l.length p → l' = p.toList.map fun i => l.getD i .none) (hdl' : datL l' = true) :
  Fn C (n + 2) (.val (.builtin "sorted")) [u] [(Str.ofString "key", f)] H (H ++ [.list l', .list []]) (.ref H.length) := by
 intro A w Q E g xs zs R B rg rx rz K
 obtain ⟨_, rfl⟩ := rg.inv
 obtain ⟨x, rfl, r1⟩ := rx.inv1
 obtain ⟨z, rfl, r2⟩ := VRels.inv1 rz
 obtain ⟨q, rfl⟩ := hg w z r2
 refine call_function_entry_kw kind_sorted plain_sorted entry_sorted (ksk_s1 _ _) ?_
 unfold Builtin.«sorted»
 refine wpAny_bind (m := checkCount "sorted" 1 1 _) (wpAny_pure ?_)
 refine wpAny_bind (hcol A.in1 w _ _ x R.in1 B r1 fun w1 vs S1 B1 rv => ?_)
 have hlen := rv.length
 refine wpAny_bind (wpAny_newList ?_ (by rw [sizeLine_eq]; lia))
 have hD : (w1.s.heap.push (lstObj vs 0)).get? w1.s.heap.objs.size = some (lstObj vs 0) := Heap.get?_push_size _ rfl
 refine wpAny_bind (wpAny_holding (wpAny_call_entry_kw slot_list_sort ⟨_, hD, rfl⟩ entry_list_sort ?body (ksk_l1 _ _)))
 case body =>
 show wpAny C.M A.in1.in1 (Builtin.«list.sort» ⟨[.ref w1.s.heap.objs.size], [(Str.ofString "key", .ref q)]⟩) _ _ _
 rw [ksk_t1]
 unfold ksk_tree
 refine wpAny_bind (listItems_at hD rfl ?_)
 refine wpAny_bind (listUpdate_at hD rfl ?_ (by rw [List.size_toArray, sizeLine_eq]; lia) (Nat.zero_le _))
 obtain ⟨e1, ho1⟩ : ∃ e1, ((w1.s.heap.push (lstObj vs 0)).update w1.s.heap.objs.size (Obj.mapSeq fun q_ => (#[] : Array Value))).get? w1.s.heap.objs.size = some (seqObj "list" #[] e1) := ⟨_, get?_update_seq hD fun q_ => #[]⟩
 refine wpAny_bind (seqEpoch_at ho1 rfl ?_)
 refine wpAny_bind (wpAny_newTuple ?_ (by rw [List.toList_toArray, sizeLine_eq]; lia))
 refine wpAny_bind (wpAny_newList ?_ (Nat.zero_le _))
 refine wpAny_holding ?_
 have keepA : ∀ b ob, w1.h.get? b = some ob → (((w1.s.heap.push (lstObj vs 0)).update w1.s.heap.objs.size (Obj.mapSeq fun q_ => (#[] : Array Value))).push (tupObj vs 0)).get? b = some ob := fun b ob e => by
  have hlt : b < w1.s.heap.objs.size := Heap.lt_size e
  refine Heap.get?_push_of_some _ ?_
  rw [Heap.get?_update_ne _ _ _ _ (Nat.ne_of_lt hlt)]
  exact Heap.get?_push_of_some _ e
 have TA := B1.track (s' := { w1.s with heap := ((w1.s.heap.push (lstObj vs 0)).update w1.s.heap.objs.size (Obj.mapSeq fun q_ => (#[] : Array Value))).push (tupObj vs 0) }) (a := w1.s.heap.objs.size) (o := .sem (epA e1)) keepA rfl rfl (Nat.le_refl _) (size_none _) B1.size3
  (fun q_ => .sem (Heap.get?_push_of_some _ ho1) rfl) (fun P e => by cases e; exact Nat.zero_le _)
 generalize hsA : ({ w1.s with heap := ((w1.s.heap.push (lstObj vs 0)).update w1.s.heap.objs.size (Obj.mapSeq fun q_ => (#[] : Array Value))).push (tupObj vs 0) } : Shared) = sA at TA
 have ehA : ((w1.s.heap.push (lstObj vs 0)).update w1.s.heap.objs.size (Obj.mapSeq fun q_ => (#[] : Array Value))).push (tupObj vs 0) = sA.heap := by rw [← hsA]
 have TB := TA.1.track (s' := { sA with heap := sA.heap.push (lstObj [] 0) }) (a := sA.heap.objs.size) (o := .list []) (fun b ob e => Heap.get?_push_of_some _ e) rfl rfl (Nat.le_refl _) (size_none _) TA.1.size3
  (fun q_ => .list (Heap.get?_push_size _ rfl) .nil rfl) (fun P e => by cases e)
 have goal : wpAny C.M A.in1.in1 (ksk_rest w1.s.heap.objs.size (.ref q) false vs.toArray e1 (.ref sA.heap.objs.size)) (fun fin s' => ∃ v, fin = .done (.ret v) ∧ Q (.ref w1.s.heap.objs.size) s') E { sA with heap := sA.heap.push (lstObj [] 0) } := by
  have hl1 : w1.ρ.length = H.length := B1.len
  have BB := TB.1
  rw [List.append_assoc H] at BB
  have SB : Step [] w1 ⟨w1.ρ ++ [w1.s.heap.objs.size] ++ [sA.heap.objs.size], w1.π, { sA with heap := sA.heap.push (lstObj [] 0) }⟩ := TA.2.trans TB.2
  exact sort_go (wB := ⟨w1.ρ ++ [w1.s.heap.objs.size] ++ [sA.heap.objs.size], w1.π, { sA with heap := sA.heap.push (lstObj [] 0) }⟩) hn hdk hkl hkey hkind hlt hout hdl' R.in1.in1 ((r2.step0 S1).step0 SB) (rv.step0 SB) BB (by show (w1.ρ ++ [_] ++ [_])[_]? = _; rw [← hl1]; simp) (by show (w1.ρ ++ [_] ++ [_])[_]? = _; rw [← hl1]; simp)
   fun w' S B h => K w' _ ((S1.trans SB).trans S) B (.ref h)
 subst hsA
 exact wpAny_mono goal (fun fin s' h => by obtain ⟨v, e, h⟩ := h; exact ⟨v, e, wpAny_pure ⟨_, rfl, h⟩⟩) fun q_ q_ h => h
theorem Fn.sorted (hcol : Col C (n + 1) H u l) (hg : ∀ (w : Wd) g, VRel w f g → ∃ q, g = .ref q) (hn : l.length < 64) (hdl : datL l = true) (hdk : datL ks = true) (hkl : ks.length = l.length)
  (hkey : ∀ K (i : Nat) v kv, l[i]? = some v → ks[i]? = some kv → Fn C n f [v] [] (H ++ K) (H ++ K) kv) (hkind : 2 ≤ ks.length → KeyKind C κ ks)
  (hlt : ∀ K i j, i < l.length → j < l.length → KeyLt C n κ (ks.getD i .none) (ks.getD j .none) (H ++ K) (decide (rk i < rk j)))
  (hout : ∀ p, Pre l.length l.length p → Asc rk l.length p → l' = p.toList.map fun i => l.getD i .none) (hdl' : datL l' = true) :
  Fn C (n + 2) (.val (.builtin "sorted")) [u] [(Str.ofString "key", f)] H H (.lst l') :=
 Fn.shed (Fn.sortedT hcol hg hn hdl hdk hkl hkey hkind hlt hout hdl') (Nat.le_refl _) (.lst (k := H.length) (by simp) (Nat.le_refl _)) id
end
end
section
open PySem.AutoSeq1 (wpAny_loadPart')
open PySem.SeqAt
open PySem.MeetsSeq3
noncomputable def lexLt : List Int → List Int → Bool
 | _, [] => false
 | [], _ :: _ => true
 | x :: xs, y :: ys => if x = y then lexLt xs ys else decide (x < y)
theorem lexLt_drop_end {xs ys : List Int} {i : Nat} (h : xs.length ≤ i ∨ ys.length ≤ i) (h2 : i ≤ xs.length ∧ i ≤ ys.length) : lexLt (xs.drop i) (ys.drop i) = decide (xs.length < ys.length) := by
 by_cases q : ys.length ≤ i
 ·rw [List.drop_eq_nil_of_le q, decide_eq_false (by lia)]
  cases xs.drop i <;> rfl
 ·rw [List.drop_eq_nil_of_le (by lia : xs.length ≤ i), List.drop_eq_getElem_cons (by exact Nat.lt_of_not_le (by assumption) : i < ys.length), decide_eq_true (by lia)]
  rfl
theorem lt_loop (l b : Addr) (items items2 : Array Value) (n n2 : Nat) (xs ys : List Int) (hx : IntsAre items.toList xs) (hy : IntsAre items2.toList ys) (k : Nat) :
  ∀ i : Nat, items.size - i = k → i ≤ items.size → i ≤ items2.size → Meets (Builtin.«list.__eq__.loop» ⟨[.ref l, .ref b, rawInt i, rawInt 0], []⟩)
   (fun A R s => s.heap.get? l = some { cls := .type "list", dict := none, data := .seq items n, slots := #[] } ∧ s.heap.get? b = some { cls := .type "list", dict := none, data := .seq items2 n2, slots := #[] } ∧
    R (.ok (.ret (.bool (lexLt (xs.drop i) (ys.drop i))))) s) := by
 have hlx : xs.length = items.size := by rw [← hx.length]; simp
 have hly : ys.length = items2.size := by rw [← hy.length]; simp
 induction k with
 | zero =>
  intro i hk h1 h2 prog w A R s h
  obtain ⟨hp, g, d, tk, os⟩ := s; obtain ⟨hl, hb, h⟩ := h
  rw [lexLt_drop_end (by lia) (by lia)] at h
  wp_walk using wpAny_loadPart' hl, wpAny_loadPart' hb
  have hi1 : items[((i : Nat) : Int).toNat]? = none := by simp; lia
  rw [hi1]
  wp_walk using wpAny_loadPart' hl, wpAny_loadPart' hb
  show R (.ok (.ret (.bool (decide (items.size < items2.size))))) _
  rw [← hlx, ← hly]
  exact h
 | succ k ih =>
  intro i hk h1 h2 prog w A R s h
  obtain ⟨hp, g, d, tk, os⟩ := s; obtain ⟨hl, hb, h⟩ := h
  have hlt : i < items.size := by lia
  by_cases q : i < items2.size
  ·have e1 : items[((i : Nat) : Int).toNat]? = some items[i] := by simp [hlt]
   have e2 : items2[((i : Nat) : Int).toNat]? = some items2[i] := by simp [q]
   obtain ⟨t, ht⟩ := hx.get i (xs[i]'(by lia)) (by simp)
   obtain ⟨u, hu⟩ := hy.get i (ys[i]'(by lia)) (by simp)
   have z1 : items[i] = .int (xs[i]'(by lia)) t := by simpa [hlt] using ht
   have z2 : items2[i] = .int (ys[i]'(by lia)) u := by simpa [q] using hu
   rw [List.drop_eq_getElem_cons (by lia : i < xs.length), List.drop_eq_getElem_cons (by lia : i < ys.length)] at h
   have hc : ((i : Int) + 1) = ((i + 1 : Nat) : Int) := by push_cast; rfl
   wp_walk using wpAny_loadPart' hl, wpAny_loadPart' hb
   rw [e1, e2, z1, z2]
   refine wpAny_bind (EqAt.int_int (xs[i]'(by lia)) t (ys[i]'(by lia)) u prog w _ _ ?_)
   by_cases e : xs[i]'(by lia) = ys[i]'(by lia)
   ·rw [show (xs[i]'(by lia) == ys[i]'(by lia)) = true by simpa using e]
    rw [lexLt, if_pos e] at h
    wp_walk
    rw [hc]
    exact ⟨plainId_quiet plain_eq_loop _, codeAny_builtin entry_eq_loop (by
     rw [Around.under_plainId plain_eq_loop _]
     exact ih (i + 1) (by lia) (by assumption) (by lia) prog w A R _ ⟨hl, hb, h⟩)⟩
   ·rw [show (xs[i]'(by lia) == ys[i]'(by lia)) = false by simpa using e]
    rw [lexLt, if_neg e] at h
    wp_walk using wpAny_loadPart' hl, wpAny_loadPart' hb
    rw [e1, e2, z1, z2]
    refine wpAny_bind (wpAny_lt_int (wpAny_pure ?_))
    exact h
  ·rw [lexLt_drop_end (by lia) (by lia)] at h
   have e1 : items[((i : Nat) : Int).toNat]? = some items[i] := by simp [hlt]
   have e2 : items2[((i : Nat) : Int).toNat]? = none := by simp; lia
   wp_walk using wpAny_loadPart' hl, wpAny_loadPart' hb
   rw [e1, e2]
   wp_walk using wpAny_loadPart' hl, wpAny_loadPart' hb
   show R (.ok (.ret (.bool (decide (items.size < items2.size))))) _
   rw [← hlx, ← hly]
   exact h
theorem list_lt (l b : Addr) (items items2 : Array Value) (n n2 : Nat) (xs ys : List Int) (hx : IntsAre items.toList xs) (hy : IntsAre items2.toList ys) : Meets (Builtin.«list.__lt__» ⟨[.ref l, .ref b], []⟩)
   (fun A R s => s.heap.get? l = some { cls := .type "list", dict := none, data := .seq items n, slots := #[] } ∧ s.heap.get? b = some { cls := .type "list", dict := none, data := .seq items2 n2, slots := #[] } ∧
    R (.ok (.ret (.bool (lexLt xs ys)))) s) := by
 intro prog w A R s h
 obtain ⟨hp, g, d, tk, os⟩ := s; obtain ⟨hl, hb, h⟩ := h
 have f3 := AutoSeq1.sub_list_list
 wp_walk using wpAny_loadPart' hl, wpAny_loadPart' hb
 exact ⟨plainId_quiet plain_eq_loop _, codeAny_builtin entry_eq_loop (by
  rw [Around.under_plainId plain_eq_loop _]
  exact lt_loop l b items items2 n n2 xs ys hx hy _ 0 rfl (Nat.zero_le _) (Nat.zero_le _) prog w A R _ ⟨hl, hb, by simpa using h⟩)⟩
section
variable {C : Ct} {n : Nat} {H : List HObj}
theorem KeyLt.lists {xs ys : List Int} : KeyLt C n oneType' (.lst (xs.map .int)) (.lst (ys.map .int)) H (lexLt xs ys) := by
 intro A w Q E x y R B rx ry K
 obtain ⟨_, _, _, rfl, e1, _, r1⟩ := rx.inv
 obtain ⟨_, _, _, rfl, e2, _, r2⟩ := ry.inv
 rw [keyLt'_oneType, oneLt'_eq]
 simp only [if_true]
 refine wpAny_bind (wpAny_cRoomFor R.room ?_)
 refine wpAny_bind (wpAny_callSpecialIfBound?_slot (T := "list") (id := "list.__lt__") ⟨_, e1, rfl⟩ F.slot_list_lt ?_)
 refine call_meets F.slot_list_lt ⟨_, e1, rfl⟩ F.entry_list_lt (F.args_list_lt_2 _ _) (list_lt _ _ _ _ _ _ xs ys (by simpa using r1.intsAre) (by simpa using r2.intsAre)) ⟨e1, e2, ?_⟩
 show wpAny _ _ _ _ _ _
 exact wpAny_truthy_bool (K w (Step.refl _ _) B)
theorem KeyKind.lists {ls : List (List Int)} (h : 2 ≤ ls.length) : KeyKind C oneType' (ls.map fun l => V.lst (l.map .int)) := by
 intro A w H Q E vs B r K
 have hl := r.length
 rw [List.length_map] at hl
 refine kas_kind (T := .type "list") (by lia) (fun v hv => ?_) (by decide) (by decide) K
 obtain ⟨i, hi⟩ := List.getElem?_of_mem hv
 have hlt : i < ls.length := by have := (List.getElem?_eq_some_iff.mp hi).1; lia
 obtain ⟨x, h1, h2⟩ := r.get (i := i) (v := .lst (ls[i].map .int)) (by simp [hlt])
 rw [hi] at h1; cases h1
 obtain ⟨_, _, _, rfl, e, _, _⟩ := h2.inv
 exact (Looks.ld e).andThen .now
theorem Col.rng {k : Nat} (hk : k < 1000) : Col C n H (.rng 0 k) (((List.range k).map fun (i : Nat) => (i : Int)).map V.int) := by
 intro A w Q E x R B rx K
 have h := rx.inv
 obtain ⟨r, t, u, v, rfl, nr, hr⟩ := h
 obtain ⟨hsm, hsz⟩ := small_of (a := 0) (b := (k : Int)) (by decide) (by decide) (by exact Int.ofNat_nonneg _) (by lia)
 have hlt : r < w.s.heap.objs.size := Heap.lt_size hr
 have hS : (w.s.heap.push (lstObj [] 0)).get? w.s.heap.objs.size = some { cls := .type "list", data := .seq #[] 0 } := Heap.get?_push_size _ rfl
 have key := wpAny_extend_range (prog := C.prog) (w := C.w) (A := A) (s := { w.s with heap := w.s.heap.push (lstObj [] 0) })
  (R := fun (q : Result) (s' : Shared) => ∃ (h' : Heap) (tk : Nat) (acc' : Array Value) (c' : Nat), q = .ok (.ret (.ref w.s.heap.objs.size)) ∧ s' = { w.s with heap := h', toks := tk } ∧
   (∀ b o, w.s.heap.get? b = some o → h'.get? b = some o) ∧ h'.get? w.s.heap.objs.size = some { cls := .type "list", dict := none, data := .seq acc' c', slots := #[] } ∧ ItemsOf (fun i v => ∃ t, v = .int (0 + i * 1) t) acc' (k : Int).toNat)
  (r := r) (a := 0) (b := (k : Int)) (c := 1) (n := (k : Int).toNat) (t := t) (u := u) (v := v) R.hd (Heap.get?_push_of_some _ hr) hsm (by rw [hsz]; simp) (by lia) w.s.heap.objs.size (.ref w.s.heap.objs.size) 0 hS
  (fun h' tk acc' c' hk hS' hacc => ⟨h', tk, acc', c', rfl, rfl, fun b o e => hk b o (Nat.ne_of_lt (Heap.lt_size e)) (Heap.get?_push_of_some _ e), hS', hacc⟩)
 have fin : ∀ (h' : Heap) (tk : Nat) (acc' : Array Value) (c' : Nat), (∀ b o, w.s.heap.get? b = some o → h'.get? b = some o) → h'.get? w.s.heap.objs.size = some { cls := .type "list", dict := none, data := .seq acc' c', slots := #[] } →
   ItemsOf (fun i v => ∃ t, v = .int (0 + i * 1) t) acc' (k : Int).toNat → wpAny C.M A (do match (← load w.s.heap.objs.size).data with | .seq xs _ => pure xs.toList | _ => unsupported "internal:collect") (fun a s' => w.s.toks ≤ s'.toks → Q a s') (fun e s' => w.s.toks ≤ s'.toks → E e s') { w.s with heap := h', toks := tk } := by
  intro h' tk acc' c' hk hS' hacc
  refine wpAny_bind (wpAny_load hS' (wpAny_pure fun htk => ?_))
  have X : Ext w ⟨w.ρ, w.π, { w.s with heap := h', toks := tk }⟩ := ⟨rfl, hk, rfl, rfl, rfl, htk⟩
  refine K ⟨w.ρ, w.π, _⟩ _ X.step (B.ext X) ?_
  have hz : acc'.size = k := by rw [hacc.1]; simp
  have all : ∀ (l : List Value) (j : Nat), l.length + j = k → (∀ i v, l[i]? = some v → ∃ t, v = Value.int ((i + j : Nat) : Int) t) → VRels ⟨w.ρ, w.π, { w.s with heap := h', toks := tk }⟩ (((List.range' j l.length).map fun (i : Nat) => (i : Int)).map V.int) l := by
   intro l
   induction l with
   | nil => intro j _ _; exact .nil
   | cons a l ih =>
    intro j hj hv
    obtain ⟨t, rfl⟩ := hv 0 a rfl
    rw [List.length_cons, List.range'_succ, List.map_cons, List.map_cons]
    refine .cons (by rw [Nat.zero_add]; exact .int _ _) (ih (j + 1) (by simp at hj; lia) fun i v e => ?_)
    obtain ⟨t, rfl⟩ := hv (i + 1) v (by simpa using e)
    exact ⟨t, by rw [show i + 1 + j = i + (j + 1) by lia]⟩
  have := all acc'.toList 0 (by simpa using hz) (fun i v e => by
   obtain ⟨t, ht⟩ := hacc.2 i v (by simpa using e)
   exact ⟨t, by rw [ht]; simp⟩)
  rw [Array.length_toList, hz, ← List.range_eq_range'] at this
  exact this
 unfold collect
 refine wpAny_with_toks (Nat.le_refl _) (wpAny_bind (wpAny_runValue (codeAny_builtin entry_proto_collect' ?_)))
 rw [Around.under_plainId PySem.F.plain_proto_collect _]
 show wpAny _ A.in1 (newList [] >>= fun l => again (.builtin "list.__iadd__" ⟨[l, .ref r], []⟩)) _ _ w.s
 refine wpAny_bind (wpAny_newObj_type ?_)
 refine wpAny_pure ⟨plainId_quiet PySem.F.plain_list_iadd _, codeAny_builtin PySem.F.entry_list_iadd ?_⟩
 rw [Around.under_plainId PySem.F.plain_list_iadd _]
 show wpAny _ A.in1 (Builtin.List.listExtendWith (.ref w.s.heap.objs.size) (.ref r) (.ref w.s.heap.objs.size)) _ _ _
 refine wpAny_mono key (fun fin' s' x => ?_) fun e s' x => ?_
 ·cases fin' with
  | done f =>
   obtain ⟨h', tk, acc', c', e, rfl, hk, hS', hacc⟩ := x
   cases e
   exact fin h' tk acc' c' hk hS' hacc
  | again c₁ =>
   refine ⟨x.1, codeAny_mono x.2 fun q s₂ y => ?_⟩
   obtain ⟨h', tk, acc', c', rfl, rfl, hk, hS', hacc⟩ := y
   exact fin h' tk acc' c' hk hS' hacc
 ·obtain ⟨_, _, _, _, e', _⟩ := x
  cases e'
end
end
section
noncomputable def frameA (k : Nat) (L : Addr) : OAsrt where
 P w o := w.ρ[k]? = some L ∧ ∃ es n, o.data = .dict es n
 mono _ S h := ⟨S.at h.1, h.2⟩
 hard h hd _ := by obtain ⟨_, es, n, h⟩ := h; exact nomatch h.symm.trans hd
 top := k + 1
 low L h := ⟨(L.at_ k (Nat.lt_succ_self k)).trans h.1, h.2⟩
 loose h := h
structure OutOk (H : List HObj) (w : Wd) (env : Env) : Prop where
 kind : env.scope.kind = .function
 frame : env.frame = some env.locals
 at_ : (env.locals ∉ w.ρ ∧ env.locals ∉ w.π ∧ ∃ o es n, w.h.get? env.locals = some o ∧ o.data = .dict es n) ∨ ∃ k, H[k]? = some (HObj.sem (frameA k env.locals))
theorem frameA_at {C : Ct} {w : Wd} {H : List HObj} (B : BSt C w H) {k : Nat} {L : Addr} (e : H[k]? = some (.sem (frameA k L))) : w.ρ[k]? = some L ∧ ∃ o es n, w.h.get? L = some o ∧ o.data = .dict es n := by
 have hl : k < w.ρ.length := by rw [B.len]; exact (List.getElem?_eq_some_iff.mp e).1
 have ha : w.ρ[k]? = some w.ρ[k] := List.getElem?_eq_getElem hl
 cases B.obj k _ _ ha e with
 | sem e' p =>
  obtain ⟨p1, es, n, p2⟩ := p
  obtain rfl := Option.some.inj (ha.symm.trans p1)
  exact ⟨ha, _, es, n, e', p2⟩
theorem OutOk.dict {C : Ct} {w : Wd} {H : List HObj} {env : Env} (h : OutOk H w env) (B : BSt C w H) : ∃ o es n, w.h.get? env.locals = some o ∧ o.data = .dict es n := by
 rcases h.at_ with ⟨_, _, h⟩ | ⟨k, e⟩
 ·exact h
 ·exact (frameA_at B e).2
theorem OutOk.step {w w' : Wd} {H : List HObj} {env : Env} (h : OutOk H w env) (S : Step [] w w') : OutOk H w' env := by
 refine ⟨h.kind, h.frame, ?_⟩
 rcases h.at_ with ⟨h1, h2, o, es, n, ho, hd⟩ | h
 ·exact .inl ⟨S.notin ho h1, S.pin ▸ h2, o, es, n, S.keep _ o ho h1 (fun z => nomatch z), hd⟩
 ·exact .inr h
noncomputable abbrev lcs (outer : List Env) : List Addr := outer.map (·.locals)
structure Raised (C : Ct) (H : List HObj) (outer : List Env) (w : Wd) (e : Addr) (X : String) (msg : Str) (w' : Wd) (wm : Wd) (base : Heap) (D : List Addr) (t : Addr) : Prop where
 st : Step [] w wm
 B : BSt C wm H
 full : ∀ a o, wm.h.get? a = some o → a ∉ lcs outer → a ∉ D → base.get? a = some o
 dead : ∀ a ∈ D, w.h.get? a = none ∧ a ∉ wm.ρ ∧ ∀ o, wm.h.get? a = some o → Soft o
 fly : Heap.FlyingW base outer e (.type X) (.ref t) w'.h
 tup : ∃ u, w'.h.TupAt t [.str msg u]
 tn : base.get? t = none
 up : wm.h.UpToSlots w'.h
 rho : w'.ρ = wm.ρ
 pin : w'.π = wm.π
 gens : w'.s.gens = wm.s.gens
 os : w'.s.os = wm.s.os
 tk : wm.s.toks ≤ w'.s.toks
noncomputable def RaisedX (C : Ct) (H : List HObj) (outer : List Env) (w : Wd) (e : Addr) (X : String) (msg : Str) (w' : Wd) : Prop := ∃ wm base D t, Raised C H outer w e X msg w' wm base D t
noncomputable def FnX (C : Ct) (n : Nat) (f : V) (args : List V) (kw : List (Str × V)) (H : List HObj) (X : String) (msg : Str) : Prop :=
 ∀ (A : Around) (outer : List Env) (w : Wd) (R : Result → Shared → Prop) (g : Value) (xs : List Value) (ks : List Value), Room A n → A.frames = some outer → (∀ env ∈ outer, OutOk H w env) → BSt C w H → VRel w f g → VRels w args xs → VRels w (kw.map (·.2)) ks →
  (∀ w' e, RaisedX C H outer w e X msg w' → R (.error (.ref e)) w'.s) → codeAny C.M A (.call g ⟨xs, (kw.map (·.1)).zip ks⟩) R w.s
noncomputable def ExX (C : Ct) (n : Nat) (env : Env) (σ : Loc) (H : List HObj) (ss : List PySem.Stmt) (X : String) (msg : Str) : Prop :=
 ∀ (A : Around) (outer : List Env) (w : Wd) (Q : Flow → Shared → Prop) (E : Value → Shared → Prop), Room A n → A.frames = some (env :: outer) → (∀ env' ∈ outer, OutOk H w env') → OutOk H w env → BSt C w H → FSt C w env σ →
  (∀ w' e, RaisedX C H (env :: outer) w e X msg w' → E (.ref e) w'.s) → wpAny C.M A (execs ss env) Q E w.s
noncomputable def ExR (C : Ct) (n : Nat) (env : Env) (σ : Loc) (H : List HObj) (ss : List PySem.Stmt) (X : String) (msg : Str) : Prop :=
 ∀ (A : Around) (w : Wd) (Q : Flow → Shared → Prop) (E : Value → Shared → Prop), Room A n → BSt C w H → FSt C w env σ →
  (∀ w' h' e u, Step [] w w' → BSt C w' H → FSt C w' env σ → Heap.MadeExc w'.h h' e X [.str msg u] → E (.ref e) { w'.s with heap := h' }) → wpAny C.M A (execs ss env) Q E w.s
theorem funFrames_of {C : Ct} {base h : Heap} {w : Wd} {H : List HObj} (B : BSt C w H) (hh : ∀ a o, w.h.get? a = some o → h.get? a = some o) : ∀ {l : List Env}, (∀ env ∈ l, OutOk H w env) → (∀ a ∈ lcs l, base.get? a = none) → h.FunFrames base l
 | [], _, _ => trivial
 | env :: l, hl, hb => by
  have h1 := hl env (.head _)
  obtain ⟨o, es, n, ho, hd⟩ := h1.dict B
  refine ⟨by rw [h1.kind]; decide, ⟨env.locals, o, h1.frame, hb _ (.head _), hh _ o ho, fun vs q => by exact nomatch hd.symm.trans q⟩, funFrames_of B hh (fun e m => hl e (.tail _ m)) fun a m => hb a (.tail _ m)⟩
section
variable {C : Ct} {n : Nat} {env : Env} {σ σ' σ1 : Loc} {H H' H0 H1 H2 H3 : List HObj} {pos p pos' : Pos} {k : Nat} {x : Str} {v v1 v2 v3 : V} {e e1 e2 e3 : PySem.Expr} {o : Out} {st : PySem.Stmt} {rest body orelse : List PySem.Stmt} {X : String} {msg : Str}
theorem frames_deeper {A : Around} {outer : List Env} (h : A.frames = some outer) (env : Env) : (A.deeper env).frames = some (env :: outer) := Around.frames_deeper h
theorem callEnv_ok {fd : FuncData} {L f : Addr} {w : Wd} {σ : Loc} (F : FSt C w (callEnvC fd L f) σ) : OutOk H w (callEnvC fd L f) := by
 refine ⟨F.kind, rfl, .inl ⟨F.out, F.pin _ (.head _), ?_⟩⟩
 obtain ⟨_, ⟨o', es, ep, ho', hd, _⟩, _⟩ := F.ns
 exact ⟨o', es, _, ho', hd⟩
theorem FnX.ofR {f : Addr} {fd : FuncData} {oc : Value} {od : Option Addr} {osl : Array (Option Value)} {body : List Stmt} {args : List V} {kw : List (Str × V)} {ns : List Str} {vs : List V}
  (ho : C.K.lookup f = some ⟨oc, od, .func fd, osl⟩) (hb : fd.body = .stmts body) (hst : fdOk fd = true) (hcd : codeIn C.K fd.code fd.qualname = true) (hns : namesOk fd ns = true) (hnd : ns.Nodup)
  (hbind : BindsX C fd args kw ns vs H H) (hbody : ∀ env : Env, env.scope = fd.scope → ExR C n env (ns.zip vs) H body X msg) : FnX C (n + 1) (.val (.ref f)) args kw H X msg := by
 intro A outer w0 R' g xs ks R hfr hout B0 rg rx rk K
 refine FnC.enter ho hb hst hcd hns hnd hbind R B0 rg rx rk fun w w1 L S0 X1 eL notX B1 F1 => ?_
 refine hbody (callEnvC fd L f) rfl (A.deeper (callEnvC fd L f)) w1 _ _ R.deeper B1 F1 fun w2 h' ex u S2 B2 F2 hx => ?_
 have S02 : Step [] w0 w2 := (S0.trans X1.step).trans S2
 have hout2 : ∀ env ∈ callEnvC fd L f :: outer, OutOk H w2 env := fun env m => by
  rcases List.mem_cons.mp m with rfl | m
  ·exact callEnv_ok F2
  ·exact (hout env m).step S02
 have hx' : Heap.MadeExcOf w2.h h' ex (.type X) [.str msg u] := ⟨hx.keeps, hx.new, hx.there⟩
 refine wpAny_leaves_madeW (base := hideAll w2.h (lcs (callEnvC fd L f :: outer))) (s := { w2.s with heap := h' }) (frames_deeper hfr _) rfl (fun b o q => of_hideAll _ q)
  (funFrames_of B2 (fun q_ q_ e => e) hout2 fun a m => hideAll_none _ m) hx' fun h3 t x1 x2 x3 x4 => ?_
 refine K ⟨w2.ρ, w2.π, { w2.s with heap := h3 }⟩ ex ⟨w2, _, [L], t, S02, B2, fun a o e n1 n2 => hideAll_get _ e fun m => ?_, fun a m => ?_, x1, ⟨u, x2⟩, x3, (Heap.UpToSlots.of_keeps hx.keeps).trans x4, rfl, rfl, rfl, rfl, Nat.le_refl _⟩
 ·rcases List.mem_cons.mp m with rfl | m
  ·exact n2 (.head _)
  ·exact n1 m
 ·cases List.mem_singleton.mp m
  refine ⟨?_, F2.out, (F2.nonSeq _ (.head _)).2⟩
  cases q : w0.h.get? L with
  | none => rfl
  | some o =>
   exfalso
   by_cases m : L ∈ w0.ρ
   ·obtain ⟨δ, hδ, _⟩ := S0.rho
    have : L ∈ w.ρ := by rw [hδ]; exact List.mem_append_left _ m
    have h2 : L ∈ w1.ρ := by rw [X1.rho]; exact this
    exact F1.out h2
   ·exact notX L o (S0.keep L o q m fun z => nomatch z) (.head _)
theorem Raised.leave {fd : FuncData} {L f : Addr} {outer : List Env} {w0 w1 w2 : Wd} {ex : Addr} {A : Around} {Q : Unit → Shared → Prop} {E : Value → Shared → Prop} (hfr : A.frames = some outer) (S0 : Step [] w0 w1) (hL : w0.h.get? L = none)
  (h : RaisedX C H (callEnvC fd L f :: outer) w1 ex X msg w2) (hk : ∀ wm, Step [] w1 wm → L ∉ wm.ρ ∧ ∀ o, wm.h.get? L = some o → Soft o)
  (K : ∀ h', RaisedX C H outer w0 ex X msg ⟨w2.ρ, w2.π, { w2.s with heap := h' }⟩ → Q () { w2.s with heap := h' }) : wpAny C.M (A.deeper (callEnvC fd L f)) (leaving (callEnvC fd L f) (.ref ex)) Q E w2.s := by
 obtain ⟨wm, base, D, t, r⟩ := h
 refine wpAny_leaves_onW (frames_deeper hfr _) rfl r.fly fun h' x1 x2 => K h' ⟨wm, base, L :: D, t, S0.trans r.st, r.B, fun a o e n1 n2 => r.full a o e (fun m => ?_) fun m => n2 (.tail _ m), fun a m => ?_, x1, ?_, r.tn, r.up.trans x2, r.rho, r.pin, r.gens, r.os, r.tk⟩
 ·rcases List.mem_cons.mp m with rfl | m
  ·exact n2 (.head _)
  ·exact n1 m
 ·rcases List.mem_cons.mp m with rfl | m
  ·exact ⟨hL, hk wm r.st⟩
  ·obtain ⟨d1, d2⟩ := r.dead a m
   refine ⟨?_, d2⟩
   cases q : w0.h.get? a with
   | none => rfl
   | some o =>
    obtain ⟨o', e'⟩ := S0.live a o q (fun z => nomatch z)
    exact nomatch d1.symm.trans e'
 ·obtain ⟨u, hu⟩ := r.tup
  exact ⟨u, hu.of_slots x2⟩
theorem fresh_L {w0 w w1 : Wd} {L : Addr} {env : Env} (hl : env.locals = L) (S0 : Step [] w0 w) (X1 : Ext w w1) (out : L ∉ w1.ρ) (notX : ∀ a o, w.h.get? a = some o → a ∉ fw env) : w0.h.get? L = none := by
 subst hl
 cases q : w0.h.get? env.locals with
 | none => rfl
 | some o =>
  exfalso
  by_cases m : env.locals ∈ w0.ρ
  ·obtain ⟨δ, hδ, _⟩ := S0.rho
   have : env.locals ∈ w.ρ := by rw [hδ]; exact List.mem_append_left _ m
   exact out (by rw [X1.rho]; exact this)
  ·exact notX _ o (S0.keep _ o q m fun z => nomatch z) (.head _)
theorem FnX.ofX {f : Addr} {fd : FuncData} {oc : Value} {od : Option Addr} {osl : Array (Option Value)} {body : List Stmt} {args : List V} {kw : List (Str × V)} {ns : List Str} {vs : List V}
  (ho : C.K.lookup f = some ⟨oc, od, .func fd, osl⟩) (hb : fd.body = .stmts body) (hst : fdOk fd = true) (hcd : codeIn C.K fd.code fd.qualname = true) (hns : namesOk fd ns = true) (hnd : ns.Nodup)
  (hbind : BindsX C fd args kw ns vs H H) (hbody : ∀ env : Env, env.scope = fd.scope → ExX C n env (ns.zip vs) H body X msg) : FnX C (n + 1) (.val (.ref f)) args kw H X msg := by
 intro A outer w0 R' g xs ks R hfr hout B0 rg rx rk K
 refine FnC.enter ho hb hst hcd hns hnd hbind R B0 rg rx rk fun w w1 L S0 X1 eL notX B1 F1 => ?_
 refine hbody (callEnvC fd L f) rfl (A.deeper (callEnvC fd L f)) outer w1 _ _ R.deeper (frames_deeper hfr _) (fun env m => (hout env m).step (S0.trans X1.step)) (callEnv_ok F1) B1 F1 fun w2 ex r => ?_
 refine Raised.leave hfr (S0.trans X1.step) (fresh_L (env := callEnvC fd L f) rfl S0 X1 F1.out notX) r (fun wm S => ⟨(F1.step0 S).out, ((F1.step0 S).nonSeq _ (.head _)).2⟩) fun h' r' => K _ ex r'
theorem ExR.ifT (h : Tst C n env σ H e H true) (hb : ExR C n env σ H body X msg) : ExR C n env σ H (.If e body orelse pos :: rest) X msg := by
 intro A w Q E R B F K
 refine wpAny_execs_cons (wpAny_If (h A w _ E R B F fun w1 S1 B1 F1 => ?_))
 rw [if_pos rfl]
 exact hb A w1 _ E R B1 F1 fun w' h' ex u S B' F' hx => K w' h' ex u (S1.trans S) B' F' hx
theorem ExR.raise {cls newId initId : String} (Fc : ExcCallFacts cls newId initId) (G : ExcRaiseFacts cls) {np cpos : Pos} (hn : Ev C n env σ H (.Name x np) H (.val (.type cls))) (ha : EvL C n env σ H cpos [e] H [.str msg])
  (hp : ∀ env : Env, (backTo cpos (starEach [e] env)).any (·.1) = false) (he : ∀ env : Env, starEach [e] env = (false, eval e env) :: starEach [] env) : ExR C n env σ H (.Raise (some (.Call (.Name x np) [e] [] cpos)) none pos :: rest) cls msg := by
 intro A w Q E R B F K
 refine wpAny_execs_cons (wpAny_Raise_call Fc G R.hd (hp env) (hn A w _ E R B F fun w1 y1 S1 B1 F1 r1 => ?_))
 obtain ⟨_, rfl⟩ := r1.inv
 refine ⟨rfl, ?_⟩
 have q := ha A w1 (fun ys s => ([] : List (Str × Value)) = [] ∧ ys.length ≤ sizeLine ∧ ∀ h' ex, Heap.MadeExc s.heap h' ex cls ys → E (.ref ex) { s with heap := h' }) E R B1 F1 fun w2 ys S2 B2 F2 r2 => by
  obtain ⟨y, rfl, ry⟩ := r2.inv1
  obtain ⟨t, rfl⟩ := ry.inv
  exact ⟨rfl, by simp [sizeLine], fun h' ex hx => K w2 h' ex t (S1.trans S2) B2 F2 hx⟩
 rw [he env] at q ⊢
 exact evalArgs_plain q
theorem not_live {w w1 : Wd} (S1 : Step [] w w1) {a : Addr} (d1 : w1.h.get? a = none) : w.h.get? a = none := by
 cases q : w.h.get? a with
 | none => rfl
 | some o =>
  obtain ⟨o', e'⟩ := S1.live a o q (fun z => nomatch z)
  exact nomatch d1.symm.trans e'
theorem RaisedX.before {outer : List Env} {w w1 w' : Wd} {ex : Addr} (S1 : Step [] w w1) (r : RaisedX C H outer w1 ex X msg w') : RaisedX C H outer w ex X msg w' := by
 obtain ⟨wm, base, D, t, r⟩ := r
 exact ⟨wm, base, D, t, S1.trans r.st, r.B, r.full, fun a m => ⟨not_live S1 (r.dead a m).1, (r.dead a m).2⟩, r.fly, r.tup, r.tn, r.up, r.rho, r.pin, r.gens, r.os, r.tk⟩
theorem ExX.ifF (h : Tst C n env σ H e H false) (hb : ExX C n env σ H orelse X msg) : ExX C n env σ H (.If e body orelse pos :: rest) X msg := by
 intro A outer w Q E R hfr hout ho B F K
 refine wpAny_execs_cons (wpAny_If (h A w _ E R B F fun w1 S1 B1 F1 => ?_))
 rw [if_neg Bool.false_ne_true]
 exact wpAny_mono (hb A outer w1 (fun q_ q_ => False) E R hfr (fun env m => (hout env m).step S1) (ho.step S1) B1 F1 fun w' ex r => K w' ex (r.before S1)) (fun q_ q_ z => z.elim) fun q_ q_ z => z
noncomputable def EvX (C : Ct) (n : Nat) (env : Env) (σ : Loc) (H : List HObj) (e : PySem.Expr) (X : String) (msg : Str) : Prop :=
 ∀ (A : Around) (outer : List Env) (w : Wd) (Q E : Value → Shared → Prop), Room A n → A.frames = some (env :: outer) → (∀ env' ∈ outer, OutOk H w env') → OutOk H w env → BSt C w H → FSt C w env σ →
  (∀ w' e, RaisedX C H (env :: outer) w e X msg w' → E (.ref e) w'.s) → wpAny C.M A (eval e env) Q E w.s
theorem EvX.call {f : V} {id : Str} {es : List PySem.Expr} {ks : List Keyword} {vs : List V} {kv : List (Str × V)} (hf : Ev C n env σ H (.Name id p) H f) (ha : EvA C n env σ H pos es ks H vs kv)
  (hc : FnX C n f vs kv H X msg) (hk : Kp C f) (hp : ∀ env : Env, ((backTo pos (starEach es env)).any (·.1) || (backToKw pos (keywordEach ks env)).any (·.1.isNone)) = false) : EvX C n env σ H (.Call (.Name id p) es ks pos) X msg := by
 intro A outer w Q E R hfr hout ho B F K
 refine wpAny_Call_Name_kw (hf A w _ E R B F fun w1 g S1 B1 F1 r1 => ?_)
 refine callWith_of (P := KpAt C g) (hp env) (fun q_ z => z) (ha A w1 g _ E R B1 F1 fun w2 ys zs S2 B2 F2 r2 r3 => ⟨hk w2 H g B2 (r1.step0 S2), ?_⟩)
 have S12 := S1.trans S2
 refine wpAny_call (hc A (env :: outer) w2 _ g ys zs R hfr (fun env' m => ?_) B2 (r1.step0 S2) r2 r3 fun w' ex r => ?_)
 ·rcases List.mem_cons.mp m with rfl | m
  ·exact ho.step S12
  ·exact (hout _ m).step S12
 ·exact K w' ex (r.before S12)
theorem ExX.assign (h : EvX C n env σ H e X msg) (hs : swapsWith e (some (.Name x pos')) pos.line env = pure false) : ExX C n env σ H (.Assign [.Name x pos'] e pos :: rest) X msg := by
 intro A outer w Q E R hfr hout ho B F K
 exact wpAny_execs_cons (wpAny_Assign_Name (h A outer w _ E R hfr hout ho B F K) hs)
theorem ExX.expr (h : EvX C n env σ H e X msg) (hi : interactive env = false) (hs : swapsWith e none pos.line env = pure false) : ExX C n env σ H (.Expr e pos :: rest) X msg := by
 intro A outer w Q E R hfr hout ho B F K
 exact wpAny_execs_cons (wpAny_Expr_any (h A outer w _ E R hfr hout ho B F K) hi hs)
end
end
section
section
variable {C : Ct} {n : Nat} {env : Env} {σ σ' σ1 : Loc} {H H' H0 H1 H2 H3 : List HObj} {pos p pos' : Pos} {k : Nat} {x : Str} {v v1 v2 v3 : V} {e e1 e2 e3 : PySem.Expr} {o : Out} {st : PySem.Stmt} {rest body orelse : List PySem.Stmt} {X : String} {msg : Str}
structure OutT (H : List HObj) (outer : List Env) : Prop where
 all : ∀ env ∈ outer, env.scope.kind = .function ∧ env.frame = some env.locals ∧ ∃ k, H[k]? = some (HObj.sem (frameA k env.locals))
theorem OutT.ok {outer : List Env} (h : OutT H outer) (w : Wd) : ∀ env ∈ outer, OutOk H w env := fun env m => let ⟨a, b, c⟩ := h.all env m; ⟨a, b, .inr c⟩
theorem Raised.land {outer : List Env} {w w' wm : Wd} {ex : Addr} {base h6 : Heap} {D : List Addr} {t : Addr} (r : Raised C H (env :: outer) w ex X msg w' wm base D t) (ho : OutT H outer) (hf : env.frame = some env.locals) (B : BSt C w H) (F : FSt C w env σ)
  (hs : base.StaysIn h6) (hu : wm.h.UpToSlots h6) : BSt C ⟨w'.ρ, w'.π, { w'.s with heap := h6 }⟩ H ∧ FSt C ⟨w'.ρ, w'.π, { w'.s with heap := h6 }⟩ env σ ∧ Step (fw env) w ⟨w'.ρ, w'.π, { w'.s with heap := h6 }⟩ := by
 have Fm := F.step0 r.st
 have Xall : ∀ a, a ∈ D ++ lcs (env :: outer) → a ∈ D ∨ a = env.locals ∨ ∃ k, H[k]? = some (HObj.sem (frameA k a)) := fun a m => by
  rcases List.mem_append.mp m with m | m
  ·exact .inl m
  ·rcases List.mem_cons.mp m with m | m
   ·exact .inr (.inl m)
   ·obtain ⟨env', hm, rfl⟩ := List.mem_map.mp m
    exact .inr (.inr (ho.all env' hm).2.2)
 have dnil : ∀ a ∈ D, ∀ o, w.h.get? a = some o → False := fun a m o e => by rw [(r.dead a m).1] at e; cases e
 have hX : NonSeq wm (D ++ lcs (env :: outer)) := fun a m => by
  rcases Xall a m with m | rfl | ⟨k, hk⟩
  ·refine ⟨fun q => ?_, (r.dead a m).2.2⟩
   rw [r.st.pin] at q
   obtain ⟨_, o, ho⟩ := B.pins a q
   exact dnil a m o ho
  ·exact Fm.nonSeq _ (.head _)
  ·obtain ⟨h1, o, es, n, h2, h3⟩ := frameA_at r.B hk
   refine ⟨fun q => (r.B.pins a q).1 (List.mem_of_getElem? h1), fun o' ho' => ?_⟩
   have : wm.h.get? a = some o := h2
   obtain rfl := Option.some.inj (ho'.symm.trans this)
   exact .inr (.inl ⟨es, n, h3⟩)
 have kp : ∀ a o, wm.h.get? a = some o → a ∉ D ++ lcs (env :: outer) → h6.get? a = some o := fun a o e n => hs a o (r.full a o e (fun m => n (List.mem_append_right _ m)) fun m => n (List.mem_append_left _ m))
 have up : ∀ a o, wm.h.get? a = some o → Soft o → (∃ es n, o.data = .dict es n) → ∃ sl, h6.get? a = some { o with slots := sl } := fun a o e q_ hd => hu a o e fun vs q => by obtain ⟨es, n, hd⟩ := hd; exact nomatch hd.symm.trans q
 have dictE : ∃ o es n, wm.h.get? env.locals = some o ∧ o.data = .dict es n := by
  obtain ⟨_, ⟨o', es, ep, ho', hd, _⟩, _⟩ := Fm.ns
  exact ⟨o', es, ep, ho', hd⟩
 have lv : ∀ a o, wm.h.get? a = some o → a ∉ D → ∃ o', h6.get? a = some o' := fun a o e n => by
  by_cases m : a ∈ lcs (env :: outer)
  ·rcases Xall a (List.mem_append_right _ m) with m' | rfl | ⟨k, hk⟩
   ·exact absurd m' n
   ·obtain ⟨o', es, n', h1, h2⟩ := dictE
    obtain ⟨sl, h3⟩ := up _ o' h1 (.inr (.inl ⟨es, n', h2⟩)) ⟨es, n', h2⟩
    exact ⟨_, h3⟩
   ·obtain ⟨h1, o', es, n', h2, h3⟩ := frameA_at r.B hk
    obtain ⟨sl, h4⟩ := up _ o' h2 (.inr (.inl ⟨es, n', h3⟩)) ⟨es, n', h3⟩
    exact ⟨_, h4⟩
  ·exact ⟨o, kp a o e fun q => (List.mem_append.mp q).elim n m⟩
 have S6 : Step (D ++ lcs (env :: outer)) wm ⟨w'.ρ, w'.π, { w'.s with heap := h6 }⟩ :=
  ⟨⟨[], by rw [List.append_nil]; exact r.rho, fun q_ m => nomatch m⟩, fun a o e q_ n => kp a o e n, fun a o e n => ⟨o, kp a o e n⟩, r.gens, r.os, r.pin, r.tk⟩
 refine ⟨⟨fun b o e => kp b o (r.B.stays b o e) fun m => ?_, fun a m => r.B.out a (r.rho ▸ m), r.rho ▸ r.B.nodup, (congrArg List.length r.rho).trans r.B.len, fun i a o e1 e2 => ?_, fun a m => ?_, fun h => Nat.lt_of_lt_of_le (r.B.tok h) r.tk, r.B.tops⟩, ⟨F.own, F.glob, F.bltn, F.kind, ?_, ?_, fun q hq => ?_, F.nodup, F.full, ?_⟩, ?_⟩
 ·rcases Xall b m with m | rfl | ⟨k, hk⟩
  ·exact dnil b m o (B.stays b o e)
  ·rw [F.own _ (.head _)] at e; cases e
  ·rw [(r.B.out b (List.mem_of_getElem? (frameA_at r.B hk).1)).1] at e; cases e
 ·have e1' : wm.ρ[i]? = some a := by rw [← r.rho]; exact e1
  by_cases m : a ∈ D ++ lcs (env :: outer)
  ·rcases Xall a m with m | rfl | ⟨k, hk⟩
   ·exact absurd (List.mem_of_getElem? e1') (r.dead a m).2.1
   ·exact absurd (List.mem_of_getElem? e1') Fm.out
   ·obtain ⟨h1, o', es, n', h2, h3⟩ := frameA_at r.B hk
    have : i = k := (List.getElem?_inj (List.getElem?_eq_some_iff.mp e1').1 r.B.nodup).mp (e1'.trans h1.symm)
    subst this
    obtain rfl := Option.some.inj (e2.symm.trans hk)
    obtain ⟨sl, h4⟩ := up _ o' h2 (.inr (.inl ⟨es, n', h3⟩)) ⟨es, n', h3⟩
    exact .sem h4 ⟨by rw [r.rho]; exact h1, es, n', h3⟩
  ·exact (r.B.obj i a o e1' e2).move hX S6 fun o' e' => kp a o' e' m
 ·have m' : a ∈ wm.π := by rw [← r.pin]; exact m
  obtain ⟨h1, o, h2⟩ := r.B.pins a m'
  have : a ∉ D ++ lcs (env :: outer) := fun q => (hX a q).1 m'
  exact ⟨by rw [r.rho]; exact h1, o, kp a o h2 this⟩
 ·obtain ⟨m, hn, hm⟩ := Fm.ns
  refine ⟨m, hu.ns hn, fun y u eq => ?_⟩
  obtain ⟨z, h1, h2⟩ := hm y u eq
  refine ⟨z, ?_, h2.step hX S6⟩
  rcases h1 with h1 | ⟨hk, c, ec, o, ho', hd⟩
  ·exact .inl h1
  ·obtain ⟨_, v₀, o₀, ho₀, _⟩ := F.cells _ (mem_of_lookup ec)
   refine .inr ⟨hk, c, ec, o, kp c o ho' fun q => ?_, hd⟩
   rcases Xall c q with q | rfl | ⟨k, hk'⟩
   ·exact dnil c q _ ho₀
   ·obtain ⟨o', es, n', h1, h2⟩ := dictE
    have : wm.h.get? env.locals = some o := ho'
    obtain rfl := Option.some.inj (h1.symm.trans this)
    exact nomatch h2.symm.trans hd
   ·obtain ⟨_, o', es, n', h2, h3⟩ := frameA_at r.B hk'
    have : wm.h.get? c = some o := ho'
    obtain rfl := Option.some.inj (h2.symm.trans this)
    exact nomatch h3.symm.trans hd
 ·show env.locals ∉ w'.ρ
  rw [r.rho]; exact Fm.out
 ·obtain ⟨h1, v₀, o, ho', hd⟩ := Fm.cells q hq
  obtain ⟨_, v₁, o₀, ho₀, _⟩ := F.cells q hq
  refine ⟨by show q.2 ∉ w'.ρ; rw [r.rho]; exact h1, v₀, o, kp q.2 o ho' fun m => ?_, hd⟩
  rcases Xall q.2 m with m | m | ⟨k, hk'⟩
  ·exact dnil q.2 m _ ho₀
  ·obtain ⟨o', es, n', h1, h2⟩ := dictE
   have : wm.h.get? env.locals = some o := by rw [← m]; exact ho'
   obtain rfl := Option.some.inj (h1.symm.trans this)
   exact nomatch h2.symm.trans hd
  ·obtain ⟨_, o', es, n', h2, h3⟩ := frameA_at r.B hk'
   have : wm.h.get? q.2 = some o := ho'
   obtain rfl := Option.some.inj (h2.symm.trans this)
   exact nomatch h3.symm.trans hd
 ·show ∀ a ∈ fw env, a ∉ w'.π
  rw [r.pin]; exact Fm.pin
 ·refine ⟨?_, fun a o e n1 n2 => ?_, fun a o e n => ?_, r.gens.trans r.st.gens, r.os.trans r.st.os, r.pin.trans r.st.pin, Nat.le_trans r.st.tk r.tk⟩
  ·obtain ⟨δ, h1, h2⟩ := (F.wide r.st).rho
   exact ⟨δ, r.rho.trans h1, h2⟩
  ·have e' := r.st.keep a o e n1 fun z => nomatch z
   have n' := r.st.notin e n1
   refine kp a o e' fun m => ?_
   rcases Xall a m with m | rfl | ⟨k, hk⟩
   ·exact dnil a m o e
   ·exact n2 (.head _)
   ·exact n' (List.mem_of_getElem? (frameA_at r.B hk).1)
  ·obtain ⟨o', e'⟩ := r.st.live a o e fun z => nomatch z
   exact lv a o' e' fun m => dnil a m o e
theorem name_loc {A : Around} {w : Wd} {Q E : Value → Shared → Prop} (F : FSt C w env σ) (h : σ.lookup x = some v) (hd : (x == ("__debug__" : Str)) = false) (hc : (x == ("__classdict__" : Str)) = false) (K : ∀ y, VRel w v y → Q y w.s) : wpAny C.M A (eval (.Name x pos) env) Q E w.s := by
 obtain ⟨m, hn, hm⟩ := F.ns
 obtain ⟨y, hs, hv⟩ := hm x v h
 have q := K _ hv
 refine wpAny_Name ?_ hd
 rcases hs with ⟨a, b⟩ | ⟨a | a, c, e, hcell⟩
 ·exact wpAny_loadName_local F.kind a hn b q
 ·exact wpAny_loadName_cell F.kind a e hcell q
 ·exact wpAny_loadName_free F.kind a e hcell q hc
theorem name_blt {A : Around} {w : Wd} {Q E : Value → Shared → Prop} {y : Value} (B : BSt C w H) (F : FSt C w env σ) (h : nsIn C.K mainGlobals x = some Option.none) (hb : bootBuiltins x = some y) (hn : x ≠ "__name__") (hx : env.kindOf x = some .globalImplicit) (hd : (x == ("__debug__" : Str)) = false) (K : Q y w.s) : wpAny C.M A (eval (.Name x pos) env) Q E w.s := by
 refine Name_function_global F.kind hx (loadGlobal_builtin (mg := C.mg) (mb := C.mb) ?_ (mg_none_of C.X C.g h) ?_ ((C.blt x hn).trans hb) K) hd
 ·rw [F.glob]; exact C.g.keeps B.stays
 ·rw [F.bltn]; exact C.b.keeps B.stays
theorem suite_append {A : Around} {w : Wd} {Q : Flow → Shared → Prop} {E : Value → Shared → Prop} {wn nm : Str} {p1 p2 p3 p4 p5 ap : Pos} {j : Nat} {l : List V} {ex t : Addr} {u : Tok} (hu : A.units + 20 < cLine) (B : BSt C w H) (F : FSt C w env σ)
  (h1 : σ.lookup wn = some (.ref j)) (h2 : σ.lookup nm = some (.val (.ref ex))) (hj : H[j]? = some (.list l)) (hlen : l.length ≤ sizeLine) (hx : w.h.ExcAt ex "ValueError" (.ref t)) (ht : w.h.TupAt t [.str msg u])
  (d1 : (wn == ("__debug__" : Str)) = false) (d2 : (wn == ("__classdict__" : Str)) = false) (d3 : (nm == ("__debug__" : Str)) = false) (d4 : (nm == ("__classdict__" : Str)) = false)
  (hs : nsIn C.K mainGlobals "str" = some Option.none) (hsb : bootBuiltins "str" = some (.type "str")) (hsx : env.kindOf "str" = some .globalImplicit)
  (hbase : attributeBase (.Name wn p1) "append" env (eval (.Name wn p1) env) = eval (.Name wn p1) env) (hline : (ap.endLine == p4.line) = true)
  (hi : interactive env = false) (hsw : swapsWith (.Call (.Attribute (.Name wn p1) "append" ap) [.Call (.Name "str" p2) [.Name nm p3] [] p5] [] p4) none pos.line env = pure false)
  (K : ∀ w', Step [] w w' → BSt C w' (H.set j (.list (l ++ [.str msg]))) → FSt C w' env σ → Q .next w'.s) :
  wpAny C.M A (execs [.Expr (.Call (.Attribute (.Name wn p1) "append" ap) [.Call (.Name "str" p2) [.Name nm p3] [] p5] [] p4) pos] env) Q E w.s := by
 refine wpAny_execs_cons (wpAny_Expr_any ?_ hi hsw)
 refine wpAny_Call_method_lateS hbase rfl hline (name_loc F h1 d1 d2 fun y ry => ⟨"list", "list.append", PySem.F.plainAttrs_list, PySem.F.slot_list_append, PySem.F.type_list_append, (Typ.lst (.ref hj) w y B ry).1, (Typ.lst (.ref hj) w y B ry).2, ?_⟩)
 refine callWith_of (P := fun q_ => True) (first := [y]) rfl (fun q_ q_ => ⟨.machine, .inr (.inl rfl), Looks.of_pure rfl⟩) ?_
 refine Calls.evalArgs_plain (spliced_cons ?_)
 refine wpAny_Call_Name_kw (name_blt B F hs hsb (by decide) hsx (by decide) ?_)
 refine callWith_of (P := fun q_ => True) rfl (fun q_ q_ => ⟨.machine, .inr (.inl rfl), Looks.of_pure rfl⟩) ?_
 refine Calls.evalArgs_plain (spliced_cons (name_loc F h2 d3 d4 fun y2 r2 => ?_))
 obtain ⟨_, rfl⟩ := r2.inv
 refine spliced_nil ⟨trivial, ?_⟩
 refine P.str_of_exc_one PySem.F.excStr_ValueError (by lia) hx ht ?_
 refine spliced_nil ⟨trivial, ?_⟩
 obtain ⟨_, rfl, hD⟩ := ry.inv
 exact appendAt B hD hj (.str msg u) rfl hlen fun w' S q_ B' => wpAny_execs_nil (K w' S B' (F.step0 S))
theorem EsA.tryAppend {A : Around} {outer : List Env} {wn nm : Str} {np tp hp p1 p2 p3 p4 p5 ap : Pos} {j : Nat} {l : List V} (hA : A.frames = some (env :: outer)) (hout : OutT H outer) (hfr : env.frame = some env.locals)
  (hb : ExX C n env σ H body "ValueError" msg) (h1 : σ.lookup wn = some (.ref j)) (hne : (wn == nm) = false) (hnm : ∀ y v, σ.lookup y = some v → y ≠ nm) (hnl : env.kindOf nm = some .local) (hj : H[j]? = some (.list l)) (hlen : l.length ≤ sizeLine)
  (d1 : (wn == ("__debug__" : Str)) = false) (d2 : (wn == ("__classdict__" : Str)) = false) (d3 : (nm == ("__debug__" : Str)) = false) (d4 : (nm == ("__classdict__" : Str)) = false)
  (hs : nsIn C.K mainGlobals "str" = some Option.none) (hsb : bootBuiltins "str" = some (.type "str")) (hsx : env.kindOf "str" = some .globalImplicit)
  (hv : nsIn C.K mainGlobals "ValueError" = some Option.none) (hvb : bootBuiltins "ValueError" = some (.type "ValueError")) (hvx : env.kindOf "ValueError" = some .globalImplicit)
  (hbase : attributeBase (.Name wn p1) "append" env (eval (.Name wn p1) env) = eval (.Name wn p1) env) (hline : (ap.endLine == p4.line) = true)
  (hi : interactive env = false) (hsw : swapsWith (.Call (.Attribute (.Name wn p1) "append" ap) [.Call (.Name "str" p2) [.Name nm p3] [] p5] [] p4) none pos.line env = pure false) :
  EsA C n A env σ H (.Try body [.ExceptHandler (some (.Name "ValueError" np)) (some nm) [.Expr (.Call (.Attribute (.Name wn p1) "append" ap) [.Call (.Name "str" p2) [.Name nm p3] [] p5] [] p4) pos] hp] [] [] tp)
   (.next σ (H.set j (.list (l ++ [.str msg])))) := by
 intro w Q E R B F K
 have hok : OutOk H w env := by
  refine ⟨F.kind, hfr, .inl ⟨F.out, F.pin _ (.head _), ?_⟩⟩
  obtain ⟨_, ⟨o', es, ep, ho', hd, _⟩, _⟩ := F.ns
  exact ⟨o', es, _, ho', hd⟩
 refine wpAny_Try_except (hb A outer w _ _ R hA (hout.ok w) hok B F fun w' ex r => ?_)
 obtain ⟨wm, base, D, t, r⟩ := r
 obtain ⟨u, htup⟩ := r.tup
 refine wpAny_looks_onW hA hfr r.fly fun h₄ hheld₄ hsm₄ => ?_
 refine wpAny_landsW hheld₄ fun h₅ hheld hsm₅ => ?_
 have r5 := r.land hout hfr B F (h6 := h₅) hheld.1 ((r.up.trans hsm₄).trans hsm₅)
 refine wpAny_handleBy_builtin_as (X := "ValueError") (T := "ValueError") (b := true) PySem.F.isExc_ValueError PySem.F.notTuple_ValueError (by rw [isSubtype_type]; kernel_rfl)
  (name_blt (w := ⟨w'.ρ, w'.π, { w'.s with heap := h₅ }⟩) r5.1 r5.2.1 hv hvb (by decide) hvx (by decide) ⟨rfl, hheld.there, ?_⟩)
 rw [if_pos rfl]
 refine lands_againW hheld fun h₆ hfl₆ hsm₆ => ?_
 have hsm := ((r.up.trans hsm₄).trans hsm₅).trans hsm₆
 have r6 := r.land hout hfr B F (h6 := h₆) hfl₆.1 hsm
 have ht6 : h₆.TupAt t [.str msg u] := ((htup.of_slots hsm₄).of_slots hsm₅).of_slots hsm₆
 refine storeL (w := ⟨w'.ρ, w'.π, { w'.s with heap := h₆ }⟩) r6.1 r6.2.1 (v := .val (.ref ex)) (.val _) hnl fun w7 S7 hr7 B7 F7 => ?_
 have X : w7.h.ExcAt ex "ValueError" (.ref t) ∧ w7.h.TupAt t [.str msg u] ∧ Step (fw env) w w7 := by
  obtain ⟨oe, ws, hoe, hoec, hoed, hoe0⟩ := hfl₆.first
  obtain ⟨mE, ⟨oL, esL, epL, hoL, hdL, _⟩, _⟩ := r6.2.1.ns
  have exL : ex ≠ env.locals := fun q => by
   have e' : h₆.get? ex = some oL := by rw [q]; exact hoL
   obtain rfl := Option.some.inj (hoe.symm.trans e')
   exact nomatch hdL.symm.trans hoed
  have notρ : ∀ a, base.get? a = none → (∀ o es n, h₆.get? a = some o → o.data = .dict es n → False) → a ∉ w'.ρ := fun a hb hd m => by
   rw [r.rho] at m
   obtain ⟨i, hi⟩ := List.getElem?_of_mem m
   have hl : i < H.length := by rw [← r.B.len]; exact (List.getElem?_eq_some_iff.mp hi).1
   obtain ⟨o', ho'⟩ := (r.B.obj i a _ hi (List.getElem?_eq_getElem hl)).live
   have mD : a ∉ D := fun q => (r.dead a q).2.1 m
   by_cases q : a ∈ lcs (env :: outer)
   ·rcases List.mem_cons.mp q with q | q
    ·exact (F.step0 r.st).out (by rw [show a = env.locals from q] at m; exact m)
    ·obtain ⟨env', hm, rfl⟩ := List.mem_map.mp q
     obtain ⟨k, hk⟩ := (hout.all env' hm).2.2
     obtain ⟨_, o2, es, n', h2, h3⟩ := frameA_at r.B hk
     obtain ⟨sl, h4⟩ := hsm _ o2 h2 fun vs z => by exact nomatch h3.symm.trans z
     exact hd _ es n' h4 h3
   ·rw [r.full a o' ho' q mD] at hb; cases hb
  have exρ := notρ ex hfl₆.2.1 fun o es n h1 h2 => by
   obtain rfl := Option.some.inj (hoe.symm.trans h1)
   exact nomatch hoed.symm.trans h2
  obtain ⟨ot, nt, hot, hotc, hotd⟩ := ht6
  have tρ := notρ t r.tn fun o es n h1 h2 => by
   obtain rfl := Option.some.inj (hot.symm.trans h1)
   exact nomatch hotd.symm.trans h2
  have tL : t ≠ env.locals := fun q => by
   have e' : h₆.get? t = some oL := by rw [q]; exact hoL
   obtain rfl := Option.some.inj (hot.symm.trans e')
   exact nomatch hdL.symm.trans hotd
  have hx7 : w7.h.ExcAt ex "ValueError" (.ref t) := ⟨oe, ws, S7.keep ex oe hoe exρ (fun m => exL (List.mem_singleton.mp m)), hoec, hoed, hoe0⟩
  have ht7 : w7.h.TupAt t [.str msg u] := ⟨ot, nt, S7.keep t ot hot tρ (fun m => tL (List.mem_singleton.mp m)), hotc, hotd⟩
  have S67 : Step (fw env) w w7 := r6.2.2.trans (S7.more hr7 fun a m => by rw [List.mem_singleton.mp m]; exact .head _)
  exact ⟨hx7, ht7, S67⟩
 refine suite_append (A := A.mark (some (.ref ex))) (by have := R.units; show A.units + 20 < 9900; lia) B7 F7 (by simp [List.lookup, hne, h1]) (by simp [List.lookup]) hj hlen X.1 X.2.1 d1 d2 d3 d4 hs hsb hsx hbase hline hi hsw fun w8 S8 B8 F8 => ?_
 obtain ⟨m8, hn8, hm8⟩ := F8.ns
 refine wpAny_nameGoes_keeps hnl hn8 (by rw [F8.kind]; rfl) fun h9 v9 hn9 hs9 => ?_
 have S9 : Step [env.locals] w8 ⟨w8.ρ, w8.π, { w8.s with heap := h9, toks := w8.s.toks + 1 }⟩ :=
  ⟨⟨[], by simp, by simp⟩, fun a o e q_ m => (hs9.2 a fun q => m (q ▸ .head _)).trans e, fun a o e q_ => by
   by_cases q : a = env.locals
   ·subst q
    obtain ⟨o', _, _, ho', _⟩ := hn9
    exact ⟨o', ho'⟩
   ·exact ⟨o, (hs9.2 a q).trans e⟩, rfl, rfl, rfl, Nat.le_succ _⟩
 have hNS : NonSeq w8 [env.locals] := fun a m => by rw [List.mem_singleton.mp m]; exact F8.nonSeq _ (.head _)
 have B9 := B8.turn hNS S9 rfl (fun a o e m => by rw [List.mem_singleton.mp m, F8.own _ (.head _)] at e; cases e) fun a m o e => (hs9.2 a fun q => F8.out (q ▸ m)).trans e
 refine K ⟨w8.ρ, w8.π, _⟩ _ ((X.2.2.trans (F7.wide S8)).trans (S9.more rfl fun a m => by rw [List.mem_singleton.mp m]; exact .head _)) (.next B9 ⟨F8.own, F8.glob, F8.bltn, F8.kind, ⟨_, hn9, fun z q e => ?_⟩, F8.out, fun p hp => ?_, F8.nodup, F8.full, F8.pin⟩)
 ·have zn := hnm z q e
  obtain ⟨y', h1', h2'⟩ := hm8 z q (by simp only [List.lookup, beq_false_of_ne zn]; exact e)
  refine ⟨y', ?_, h2'.step hNS S9⟩
  rcases h1' with ⟨h, h'⟩ | ⟨h, c, e, o, ho, hd⟩
  ·exact .inl ⟨h, (if_neg zn).trans h'⟩
  ·refine .inr ⟨h, c, e, o, (hs9.2 c fun q => ?_).trans ho, hd⟩
   obtain ⟨oL, _, _, hoL, hdL, _⟩ := hn8
   rw [q] at ho; obtain rfl := Option.some.inj (hoL.symm.trans ho); exact nomatch hdL.symm.trans hd
 ·obtain ⟨h1, v₀, o, ho, hd⟩ := F8.cells p hp
  refine ⟨h1, v₀, o, (hs9.2 p.2 fun q => ?_).trans ho, hd⟩
  obtain ⟨oL, _, _, hoL, hdL, _⟩ := hn8
  rw [q] at ho; obtain rfl := Option.some.inj (hoL.symm.trans ho); exact nomatch hdL.symm.trans hd
end
end
section
noncomputable def FnO (C : Ct) (n : Nat) (f : V) (args : List V) (H H' : List HObj) (v : V) : Prop :=
 ∀ (A : Around) (outer : List Env) (w : Wd) (R : Result → Shared → Prop) (g : Value) (xs : List Value), Room A n → A.frames = some outer → OutT H outer → BSt C w H → VRel w f g → VRels w args xs →
  (∀ w' y, Step [] w w' → BSt C w' H' → VRel w' v y → R (.ok (.ret y)) w'.s) → codeAny C.M A (.call g ⟨xs, []⟩) R w.s
section
variable {C : Ct} {n : Nat} {env : Env} {σ σ' σ1 : Loc} {H H' H0 H1 H2 H3 : List HObj} {pos p pos' : Pos} {k : Nat} {x : Str} {v v1 v2 v3 : V} {e e1 e2 e3 : PySem.Expr} {o : Out} {st : PySem.Stmt} {rest body orelse : List PySem.Stmt} {X : String} {msg : Str}
theorem Es.at {A : Around} (h : Es C n env σ H st o) : EsA C n A env σ H st o := h A
theorem ExA.cons {A : Around} (h1 : EsA C n A env σ H st (.next σ1 H1)) (h2 : ExA C n A env σ1 H1 rest o) : ExA C n A env σ H (st :: rest) o := by
 intro w Q E R B F K
 refine wpAny_execs_cons (h1 w _ E R B F fun w1 f S1 O1 => ?_)
 obtain ⟨rfl, B1, F1⟩ := O1.inv
 exact h2 w1 Q E R B1 F1 fun w2 f S2 O2 => K w2 f (S1.trans S2) O2
theorem ExA.one {A : Around} (h1 : EsA C n A env σ H st (.next σ1 H1)) : ExA C n A env σ H [st] (.next σ1 H1) := ExA.cons h1 (Ex.at Ex.nil)
theorem FnO.ofDef {f : Addr} {fd : FuncData} {oc : Value} {od : Option Addr} {osl : Array (Option Value)} {body : List Stmt} {args : List V} {ns : List Str} {vs : List V}
  (ho : C.K.lookup f = some ⟨oc, od, .func fd, osl⟩) (hb : fd.body = .stmts body) (hst : fdOk fd = true) (hcd : codeIn C.K fd.code fd.qualname = true) (hns : namesOk fd ns = true) (hnd : ns.Nodup)
  (hbind : BindsX C fd args [] ns vs H H1) (hbody : ∀ (A : Around) (outer : List Env) (env : Env), env.scope = fd.scope → A.frames = some (env :: outer) → OutT H outer → env.frame = some env.locals → ExA C n A env (ns.zip vs) H1 body o) (hfin : Fin o v H') :
  FnO C (n + 1) (.val (.ref f)) args H H' v := by
 intro A outer w0 R' g xs R hfr hout B0 rg rx K
 refine FnC.enter (kw := []) (ks := []) ho hb hst hcd hns hnd hbind R B0 rg rx .nil fun w w1 L S0 X1 eL notX B1 F1 => ?_
 have q := hbody (A.deeper (callEnvC fd L f)) outer (callEnvC fd L f) rfl (frames_deeper hfr _) hout rfl w1 (fun fl s₂ => R' (.ok (.ret (match fl with | .ret v => v | _ => .none))) s₂)
  (fun e s₂ => wpAny C.M (A.deeper (callEnvC fd L f)) (leaving (callEnvC fd L f) e) (fun q_ s'' => R' (.error e) s'') (fun e' s'' => R' (.error e') s'') s₂)
  R.deeper B1 F1 fun w2 fl S2 O2 => ?_
 ·exact wpAny_mono q (fun fl s₂ z => by cases fl <;> exact z) fun q_ q_ z => z
 ·have S := S2.out X1 notX
  cases hfin with
  | ret => obtain ⟨_, rfl, B2, r2⟩ := O2.inv; exact K w2 _ (S0.trans S) B2 r2
  | next => obtain ⟨rfl, B2, _⟩ := O2.inv; exact K w2 _ (S0.trans S) B2 .none
theorem FnO.shed {K : List HObj} {f : V} {args : List V} {v v' : V} (h : FnO C n f args H (H' ++ K) v) (hm : H.length ≤ H'.length) (hz : Fz (H' ++ K) H'.length v v') (hc : Cl H → Cl H') : FnO C n f args H H' v' := by
 intro A outer w R' g xs R hfr hout B rg rx Kk
 refine h A outer w R' g xs R hfr hout B rg rx fun w1 y S1 B1 r1 => ?_
 have := (B1.lower H'.length (by rw [List.take_left]; exact hc B.tops) (by simp)).1
 rw [List.take_left] at this
 exact Kk ⟨w1.ρ.take H'.length, w1.π, w1.s⟩ y (S1.lower (by rw [B.len]; exact hm)) this (hz.rel B1 r1)
end
end
section
open Builtin Builtin.Str
open AutoSeq1 (wpAny_loadPart')
section
variable {prog : Program} {w : World} {A : Around} {E : Value → Shared → Prop} {s : Shared}
theorem next_tup {it t : Addr} {i : Nat} {items : Array Value} {x : Value} {Q : Value → Shared → Prop} (hit : s.heap.IsTupleIter it t i) (ht : s.heap.IsTuple t items) (hx : items[i]? = some x)
  (hQ : ∀ h', h'.IsTupleIter it t (i + 1) → Heap.SameBut it s.heap h' → Q x { s with heap := h' }) : wpAny (model prog w) A (Builtin.SmallTypes.nextOf (.ref it)) Q E s := by
 have hT := hit.typeIs
 obtain ⟨o, ho, hc, hd⟩ := hit
 obtain ⟨ot, hot, _, nt, hdt⟩ := ht
 unfold Builtin.SmallTypes.nextOf
 refine wpAny_bind (wpAny_callSpecial?_slot (name := Str.ofString "__next__") hT PySem.F.slot_tuple_iterator_next
  (wpAny_call_entry PySem.F.slot_tuple_iterator_next hT PySem.F.entry_tuple_iterator_next ?_ (PySem.F.args_tuple_iterator_next_1 _)))
 show wpAny _ _ (field (.ref it) 0 >>= _) _ _ s
 refine wpAny_bind (wpAny_field ho hd (x := .ref t) rfl ?_)
 show wpAny _ _ (if (Value.ref t == Value.none) = true then _ else _) _ _ s
 rw [if_neg (show ¬ ((Value.ref t == Value.none) = true) from Bool.false_ne_true)]
 show wpAny _ _ (field (.ref it) 1 >>= _) _ _ s
 refine wpAny_bind (wpAny_field ho hd (x := .int i 0) rfl ?_)
 show wpAny _ _ (seqItems? (.ref t) >>= _) _ _ s
 refine wpAny_bind (wpAny_seqItems hot hdt ?_)
 simp only [Int.toNat_natCast, hx]
 refine wpAny_bind (wpAny_setField ho hd (by simp) (wpAny_pure ⟨x, rfl, wpAny_pure (hQ _ ?_ (Heap.SameBut.update ..))⟩))
 exact ⟨_, Heap.get?_update_self _ ho (Obj.isFreed_of_fields (Obj.data_mapFields hd _)), (Obj.cls_mapFields ..).trans hc, by rw [Obj.data_mapFields hd]; simp [rawInt]⟩
theorem end_tup {it t : Addr} {i : Nat} {items : Array Value} {Q : Value → Shared → Prop} (hh : A.handled = none) (hit : s.heap.IsTupleIter it t i) (ht : s.heap.IsTuple t items) (hx : items[i]? = none)
  (hE : ∀ h' e, Heap.ExtBut it s.heap h' → (∃ o, h'.get? e = some o ∧ o.cls = .type "StopIteration") → E (.ref e) { s with heap := h' }) : wpAny (model prog w) A (Builtin.SmallTypes.nextOf (.ref it)) Q E s := by
 have hT := hit.typeIs
 obtain ⟨o, ho, hc, hd⟩ := hit
 obtain ⟨ot, hot, _, nt, hdt⟩ := ht
 unfold Builtin.SmallTypes.nextOf
 refine wpAny_bind (wpAny_callSpecial?_slot (name := Str.ofString "__next__") hT PySem.F.slot_tuple_iterator_next
  (wpAny_call_entry PySem.F.slot_tuple_iterator_next hT PySem.F.entry_tuple_iterator_next ?_ (PySem.F.args_tuple_iterator_next_1 _)))
 show wpAny _ _ (field (.ref it) 0 >>= _) _ _ s
 refine wpAny_bind (wpAny_field ho hd (x := .ref t) rfl ?_)
 show wpAny _ _ (if (Value.ref t == Value.none) = true then _ else _) _ _ s
 rw [if_neg (show ¬ ((Value.ref t == Value.none) = true) from Bool.false_ne_true)]
 show wpAny _ _ (field (.ref it) 1 >>= _) _ _ s
 refine wpAny_bind (wpAny_field ho hd (x := .int i 0) rfl ?_)
 show wpAny _ _ (seqItems? (.ref t) >>= _) _ _ s
 refine wpAny_bind (wpAny_seqItems hot hdt ?_)
 simp only [Int.toNat_natCast, hx]
 refine wpAny_bind (wpAny_rule (wpAny_bind (wpAny_setField ho hd (by simp) ?_)))
 show wpAny _ _ (newExc (.type "StopIteration") [] >>= _) _ _ _
 refine wpAny_bind ?_
 simp only [newExc, newTuple]
 refine wpAny_bind (wpAny_newObj_type ?_ (by size_fits))
 refine wpAny_bind (m := firstArgMember _ _) (wpAny_of_eq (a := Value.none) (by first | rfl | (simp only [firstArgMember]; rfl)) ?_)
 refine wpAny_newObj_type ?_ (by size_fits)
 simp only [raiseNew]
 refine wpAny_bind (wpAny_handled ?_)
 first | rw [show A.in1.handled = none from hh] | rw [hh]
 refine wpAny_bind (wpAny_pure (wpAny_throw ?_))
 exact hE _ _ (((Heap.SameBut.update ..).extBut.push _).push _) ⟨_, Heap.get?_push_size _ rfl, rfl⟩
theorem draws_tup (hh : A.handled = none) (it t : Addr) (hne : t ≠ it) (items : Array Value) :
  Draws prog w A it [it, t] items.size (fun i v => items[i]? = some v) (fun i h => h.IsTupleIter it t i ∧ h.IsTuple t items) where
 live := fun q_ q_ st => let ⟨o, ho, _⟩ := st.1; ⟨o, ho⟩
 frame := fun q_ q_ q_ st hk => let ⟨⟨o, ho, r⟩, ⟨o', ho', r'⟩⟩ := st; ⟨⟨o, hk it (by simp) o ho, r⟩, ⟨o', hk t (by simp) o' ho', r'⟩⟩
 item := fun i s Q E hi st hQ => by
  refine next_tup st.1 st.2 (x := items[i]) (by simp [hi]) fun h' hit' hs' => ?_
  exact hQ _ h' s.toks (by simp [hi]) ⟨hit', st.2.extBut hs'.extBut hne⟩ hs'
 done := fun s Q E st hE => end_tup hh st.1 st.2 (by simp) hE
set_option tactic.hygienic true in
theorem meets_enum_tup (t : Addr) (items : Array Value) (n : Nat) (dct : Option Addr) (sl : Array (Option Value)) :
  Meets (Builtin.«enumerate.__new__» ⟨[.type "enumerate", .ref t], []⟩) (fun q_ R s => s.heap.get? t = some { cls := .type "tuple", dict := dct, data := .seq items n, slots := sl } ∧
   R (.ok (.ret (.ref (s.heap.push { cls := .type "tuple_iterator", data := .fields #[.ref t, .int 0 0] }).objs.size)))
    { s with heap := (s.heap.push { cls := .type "tuple_iterator", data := .fields #[.ref t, .int 0 0] }).push { cls := .type "enumerate", data := .fields #[.none, .bool false, .ref s.heap.objs.size, rawInt 0, .none, .none] } }) :=
 .of_wp fun prog w A R s h => by
  obtain ⟨hp, g, d, tk, os⟩ := s; obtain ⟨hl, h⟩ := h
  have hsub := sub_enumerate
  have hL : Heap.IsTuple (Shared.heap ⟨hp, g, d, tk, os⟩) t items := ⟨_, hl, rfl, n, rfl⟩
  wp_walk using wpAny_loadPart' hl
  refine wpAny_stack_any fun st => wpAny_pure ?_
  split
  ·rename_i c _ _ _ _ _
   cases (c == Value.type "enumerate")
   ·wp_walk using wpAny_loadPart' hl, wpAny_pyIter_tuple hL
    exact ⟨_, rfl, h⟩
   ·wp_walk using wpAny_loadPart' hl, wpAny_pyIter_tuple hL
    exact ⟨_, rfl, h⟩
  ·wp_walk using wpAny_loadPart' hl, wpAny_pyIter_tuple hL
   exact ⟨_, rfl, h⟩
theorem call_enum_tup {t : Addr} {vs : List Value} {m : Nat} {Q : Value → Shared → Prop} (hL : s.heap.get? t = some (tupObj vs m))
  (h : ∀ h', IsEnum h' (s.heap.objs.size + 1) s.heap.objs.size 0 .none → h'.IsTupleIter s.heap.objs.size t 0 → h'.objs.size = s.heap.objs.size + 2 →
   (∀ b o, s.heap.get? b = some o → h'.get? b = some o) → Q (.ref (s.heap.objs.size + 1)) { s with heap := h' }) : wpAny (model prog w) A (call (.type "enumerate") [.ref t]) Q E s := by
 refine callType_new PySem.F.called_enumerate (by decide) (PySem.F.typeCall_enumerate_1 _) (PySem.F.newCall_enumerate_1 _) (fun obj => PySem.F.args_object_init_2 obj _) PySem.F.entry_enumerate_new
  (meets_enum_tup t vs.toArray m none #[]) ⟨hL, ?_⟩
 have hz : (s.heap.push { cls := .type "tuple_iterator", data := .fields #[.ref t, .int 0 0] }).objs.size = s.heap.objs.size + 1 := Heap.size_push ..
 show _ ∧ _
 rw [hz]
 have he : IsEnum ((s.heap.push { cls := .type "tuple_iterator", data := .fields #[.ref t, .int 0 0] }).push
   { cls := .type "enumerate", data := .fields #[.none, .bool false, .ref s.heap.objs.size, rawInt 0, .none, .none] }) (s.heap.objs.size + 1) s.heap.objs.size 0 .none := by
  have := Heap.get?_push_size (s.heap.push { cls := .type "tuple_iterator", data := .fields #[.ref t, .int 0 0] })
   (o := { cls := .type "enumerate", data := .fields #[.none, .bool false, .ref s.heap.objs.size, rawInt 0, .none, .none] }) rfl
  rw [hz] at this; exact this
 exact ⟨⟨_, he, rfl⟩, h _ he ⟨_, Heap.get?_push_of_some _ (Heap.get?_push_size _ rfl), rfl, rfl⟩ (by rw [Heap.size_push, hz]) fun b o x => Heap.get?_push_of_some _ (Heap.get?_push_of_some _ x)⟩
end
section
variable {C : Ct} {n : Nat} {H : List HObj}
theorem FnI.enumT {l : List V} : FnI C n (.val (.type "enumerate")) [.tup l] H H (fun q_ => True) isTupT (enumV l) := by
 intro A w Q E g xs R B rg rx K
 obtain ⟨_, rfl⟩ := rg.inv
 obtain ⟨x, rfl, r1⟩ := rx.inv1
 cases r1 with | @tup _ q vs m ho hn rv =>
 have hqI : q < w.s.heap.objs.size := Heap.lt_size ho
 refine call_enum_tup ho fun h' he hit hsz hk => wpAny_pyIter_enum he ?_
 have X1 : Ext w ⟨w.ρ, w.π, { w.s with heap := h' }⟩ := ⟨rfl, hk, rfl, rfl, rfl, Nat.le_refl _⟩
 have nw : ∀ a, w.s.heap.objs.size ≤ a → w.h.get? a = none := fun a ha => by
  cases z : w.h.get? a with
  | none => rfl
  | some o => exact absurd (Heap.lt_size z) (Nat.not_lt.mpr ha)
 generalize hI : w.s.heap.objs.size = I at he hit hqI
 have hIe : I ≠ I + 1 := Nat.ne_of_lt (Nat.lt_succ_self _)
 have hlen := rv.length
 refine K ⟨w.ρ, w.π, { w.s with heap := h' }⟩ (.ref (I + 1)) [I + 1, I] (fun i w' => (w'.h.get? q = some (tupObj vs m) ∧ q ∉ w'.ρ ∧ VRels w' l vs) ∧ w'.h.IsTupleIter I q i ∧ ∃ old, IsEnum w'.h (I + 1) I i old)
  (fun i y w' => (w'.h.get? q = some (tupObj vs m) ∧ q ∉ w'.ρ ∧ VRels w' l vs) ∧ w'.h.IsTupleIter I q i ∧ ∃ a x, y = .ref a ∧ IsEnumOut w'.h (I + 1) I i x a) X1.step (B.ext X1) (fun a ha => ?_) ?_ ⟨⟨X1.keep _ _ ho, hn, rv.ext X1⟩, hit, _, he⟩
 ·rcases List.mem_cons.mp ha with rfl | ha
  ·exact nw _ (by lia)
  ·rw [List.mem_singleton.mp ha]; exact nw _ (by lia)
 ·clear X1 hk hsz nw he hit hI rv rx ho hn
  have mono : ∀ {w1 w2 : Wd} {Y}, NonSeq w1 Y → Step Y w1 w2 → (w1.h.get? q = some (tupObj vs m) ∧ q ∉ w1.ρ ∧ VRels w1 l vs) → (w2.h.get? q = some (tupObj vs m) ∧ q ∉ w2.ρ ∧ VRels w2 l vs) :=
   fun hY S h => ⟨S.keep _ _ h.1 h.2.1 (hY.not h.1 ⟨_, _, rfl⟩), S.notin h.1 h.2.1, h.2.2.step hY S⟩
  refine ⟨fun A w1 Q E R p K => let ⟨_, h⟩ := p.2.2; wpAny_pyIter_enum h K, ?_, ?_, ?_, ?_, ?_, ?_⟩
  ·rintro i w' ⟨_, ⟨o, ho, hc, hd⟩, old, he⟩ b hb
   rcases List.mem_cons.mp hb with rfl | hb
   ·exact ⟨_, _, _, he, rfl, rfl, by decide⟩
   ·rw [List.mem_singleton.mp hb]; exact ⟨o, _, _, ho, hd, hc, by decide⟩
  ·rintro i y w' ⟨_, ⟨o, ho, hc, hd⟩, a, x, _, he⟩ b hb
   rcases List.mem_cons.mp hb with rfl | hb
   ·exact ⟨_, _, _, he, rfl, rfl, by decide⟩
   ·rw [List.mem_singleton.mp hb]; exact ⟨o, _, _, ho, hd, hc, by decide⟩
  ·rintro i w1 w2 Y ⟨r1, ⟨o, ho, hc, hd⟩, old, he⟩ S hY hXY hρ
   exact ⟨mono hY S r1, ⟨o, S.keep _ o ho (hρ I (.tail _ (.head _))) (hXY I (.tail _ (.head _))), hc, hd⟩, old, S.keep _ _ he (hρ _ (.head _)) (hXY _ (.head _))⟩
  ·rintro i v A w1 H1 Q E hi R B1 ok ⟨r1, hit, old, he⟩ hX K
   obtain ⟨u', hu, rfl⟩ := enumV_at hi
   obtain ⟨z, h1, h2⟩ := r1.2.2.get hu
   have hlt : i < vs.toArray.size := by have := (List.getElem?_eq_some_iff.mp h1).1; simpa using this
   refine wpAny_with_toks (Nat.le_refl _) (wpAny_pyNext_enum_itemD (draws_tup (A := A.in1) R.hd I q (Nat.ne_of_lt hqI) vs.toArray) he ⟨hit, _, r1.1, rfl, _, rfl⟩ hlt (Ne.symm hIe) (fun z => ?_) fun x h' tk hx he' hit' ht' hsz' hk' htk => ?_)
   ·rcases List.mem_cons.mp z with z | z
    ·exact absurd z (Ne.symm hIe)
    ·rw [← List.mem_singleton.mp z] at hqI; exact absurd hqI (Nat.not_lt.mpr (Nat.le_succ _))
   ·have hxz : x = z := by
     have : vs[i]? = some x := by simpa using hx
     rw [h1] at this; exact (Option.some.inj this).symm
    subst hxz
    obtain ⟨S, ks⟩ := step_two (w := w1) (a := I + 1) (b := I) (h' := h') (t := tk + 1) htk (fun b o p q e => hk' b o p q e)
    refine K ⟨w1.ρ, w1.π, _⟩ _ S rfl ks ⟨mono hX S r1, hit'.1, _, _, rfl, he'⟩ ?_
    exact .tup (vs := [.int i tk, x]) (n := 0) ht' (B1.fresh (size_none _)) (.cons (.int _ _) (.cons (h2.step hX S) .nil))
  ·rintro A w1 H1 Q E R B1 ok ⟨r1, hit, old, he⟩ hX K
   rw [enumV_len] at hit he
   refine wpAny_pyNext_enum_endD (draws_tup (A := A.in1) R.hd I q (Nat.ne_of_lt hqI) vs.toArray) he ⟨?_, _, r1.1, rfl, _, rfl⟩ fun h' hs => ?_
   ·simpa [hlen] using hit
   ·obtain ⟨S, ks⟩ := step_two (w := w1) (a := I + 1) (b := I) (h' := h') (t := w1.s.toks) (Nat.le_refl _) (fun b o p q e => hs b o q e)
    exact K ⟨w1.ρ, w1.π, _⟩ S rfl ks
  ·rintro i A w1 H1 target v y Q E hT _ ⟨r1, hit, a, x, rfl, he⟩ hX B1 rv K
   obtain ⟨_, _, _, rfl⟩ := isTup_inv hT
   refine wpAny_letOwnedTupleGo_enum he fun h' he' hs => ?_
   obtain ⟨S, ks⟩ := step_two (w := w1) (a := I + 1) (b := I) (h' := h') (t := w1.s.toks) (Nat.le_refl _) (fun b o p q e => (hs.2 b p).trans e)
   exact K ⟨w1.ρ, w1.π, _⟩ S rfl ks ⟨mono hX S r1, hit.extBut hs.extBut hIe, x, he'⟩
end
end
section
noncomputable def DictAt (w : Wd) (L : Addr) : Prop := ∃ o es n, w.h.get? L = some o ∧ o.data = .dict es n
noncomputable abbrev Wd.add (w : Wd) (L : Addr) : Wd := ⟨w.ρ ++ [L], w.π, w.s⟩
theorem DictAt.ne {w : Wd} {L a : Addr} {vs : Array Value} {o : Obj} {n : Nat} (h : DictAt w L) (e : w.h.get? a = some o) (hd : o.data = .seq vs n) : a ≠ L := fun q => by
 obtain ⟨o', es, n', h1, h2⟩ := h
 rw [← q, e] at h1; cases h1
 exact nomatch hd.symm.trans h2
theorem VRel.up {w : Wd} {L : Addr} (hL : DictAt w L) {v x} (r : VRel w v x) (h : v.dat = true) : VRel (w.add L) v x :=
 r.datG (w := w) (w' := w.add L) (fun e => e) (fun e q n m => (List.mem_append.mp m).elim n fun z => by
  obtain ⟨vs, k, q⟩ := q
  exact hL.ne e q (List.mem_singleton.mp z)) h
theorem VRels.up {w : Wd} {L : Addr} (hL : DictAt w L) {l vs} (r : VRels w l vs) (h : datL l = true) : VRels (w.add L) l vs := r.all fun v m q_ q => q.up hL (datL_iff.mp h v m)
noncomputable def Ups (P : OAsrt) : Prop := ∀ (w : Wd) (o : Obj) (L : Addr), DictAt w L → P.P w o → P.P (w.add L) o
theorem ups_tab {t : Nat} {P : Addr} {q : Str} : Ups (tabA t P q) := fun w o L hL h => by
 obtain ⟨h0, ps, e, h1, h2⟩ := h
 refine ⟨getElem?_append_some h0, ps, e, h1, fun pos v z => ?_⟩
 obtain ⟨c, hv, n, o', vs, u, e', hc, hd, hq⟩ := h2 pos v z
 refine ⟨c, hv, fun m => (List.mem_append.mp m).elim n fun q => ?_, o', vs, u, e', hc, hd, hq⟩
 obtain ⟨o2, es, n2, g1, g2⟩ := hL
 rw [List.mem_singleton.mp q] at e'
 obtain rfl := Option.some.inj (e'.symm.trans g1)
 exact nomatch hd.symm.trans g2
noncomputable def Post (C : Ct) (m : Nat) (Hm : List HObj) (env : Env) (w : Wd) (y : Value) (s' : Shared) : Prop :=
 y = .bool true ∧ ∃ w' : Wd, s' = w'.s ∧ w'.ρ = w.ρ.take m ∧ w'.π = w.π ∧ (∀ a o, w.h.get? a = some o → a ∉ w.ρ → a ∉ fw env → w'.h.get? a = some o) ∧ (∀ a o, w.h.get? a = some o → a ∉ fw env → ∃ o', w'.h.get? a = some o') ∧
  w'.s.gens = w.s.gens ∧ w'.s.os = w.s.os ∧ w.s.toks ≤ w'.s.toks ∧ BSt C w' Hm
theorem Post.back {C : Ct} {m : Nat} {Hm : List HObj} {env : Env} {w1 w2 : Wd} {y : Value} {s' : Shared} (S : Step (fw env) w1 w2) (hm : m ≤ w1.ρ.length) (h : Post C m Hm env w2 y s') : Post C m Hm env w1 y s' := by
 obtain ⟨e, w', h1, h2, h3, h4, h5, h6, h7, h8, h9⟩ := h
 refine ⟨e, w', h1, ?_, h3.trans S.pin, fun a o e n f => h4 a o (S.keep a o e n f) (S.notin e n) f, fun a o e f => ?_, h6.trans S.gens, h7.trans S.os, Nat.le_trans S.tk h8, h9⟩
 ·obtain ⟨δ, hδ, _⟩ := S.rho
  rw [h2, hδ, List.take_append_of_le_length hm]
 ·obtain ⟨o', e'⟩ := S.live a o e f
  exact h5 a o' e' f
noncomputable def ExK (C : Ct) (n : Nat) (A : Around) (m : Nat) (Hm : List HObj) (env : Env) (σ : Loc) (H : List HObj) (ss : List PySem.Stmt) : Prop :=
 ∀ (w : Wd) (Q : Flow → Shared → Prop) (E : Value → Shared → Prop), Room A n → BSt C w H → FSt C w env σ → (∀ y s', Post C m Hm env w y s' → Q (.ret y) s') → wpAny C.M A (execs ss env) Q E w.s
noncomputable def EvK' (C : Ct) (n : Nat) (A : Around) (m : Nat) (Hm : List HObj) (env : Env) (σ : Loc) (H : List HObj) (e : PySem.Expr) : Prop :=
 ∀ (w : Wd) (Q E : Value → Shared → Prop), Room A n → BSt C w H → FSt C w env σ → (∀ y s', Post C m Hm env w y s' → Q y s') → wpAny C.M A (eval e env) Q E w.s
noncomputable def BoK (C : Ct) (n : Nat) (A : Around) (m : Nat) (Hm : List HObj) (env : Env) (σ : Loc) (H : List HObj) (es : List PySem.Expr) : Prop :=
 ∀ (w : Wd) (Q E : Value → Shared → Prop) (pos : Pos), Room A n → BSt C w H → FSt C w env σ → (∀ y s', Post C m Hm env w y s' → Q y s') → wpAny C.M A (boolOp pos .And (evalEach es env)) Q E w.s
section
variable {C : Ct} {n m : Nat} {A : Around} {Hm : List HObj} {env : Env} {σ σ' σ1 : Loc} {H H' H0 H1 H2 H3 : List HObj} {pos p pos' : Pos} {k : Nat} {x : Str} {v v1 v2 v3 : V} {e e1 e2 e3 : PySem.Expr} {o : Out} {st : PySem.Stmt} {rest body orelse : List PySem.Stmt} {es : List PySem.Expr}
theorem ExK.cons (h1 : Es C n env σ H st (.next σ1 H1)) (h2 : ExK C n A m Hm env σ1 H1 rest) (hm : m ≤ H.length) : ExK C n A m Hm env σ H (st :: rest) := by
 intro w Q E R B F K
 refine wpAny_execs_cons (h1 A w _ E R B F fun w1 f S1 O1 => ?_)
 obtain ⟨rfl, B1, F1⟩ := O1.inv
 exact h2 w1 Q E R B1 F1 fun y s' P => K y s' (P.back S1 (by rw [B.len]; exact hm))
theorem BoK.one (h : EvK' C n A m Hm env σ H e) : BoK C n A m Hm env σ H [e] := fun w Q E q_ R B F K => h w Q E R B F K
theorem BoK.next (h : Ev C n env σ H e H1 v) (ht : Tru C n v H1 true) (h2 : BoK C n A m Hm env σ H1 (e2 :: es)) (hm : m ≤ H.length) (he : ∀ env : Env, evalEach (e :: e2 :: es) env = eval e env :: evalEach (e2 :: es) env) : BoK C n A m Hm env σ H (e :: e2 :: es) := by
 intro w Q E pos R B F K
 rw [he]
 show wpAny C.M A (eval _ env >>= fun v => _) Q E w.s
 refine wpAny_bind (h A w _ _ R B F fun w1 y S1 B1 F1 r1 => ?_)
 refine wpAny_bind (wpAny_standAt (wpAny_bind (wpAny_holding (ht A w1 _ _ y R B1 r1 fun w2 S2 B2 => ?_))))
 exact h2 w2 Q E pos R B2 (F1.step0 S2) fun y s' P => K y s' (P.back (F.wide (S1.trans S2)) (by rw [B.len]; exact hm))
theorem ExK.ret (h : BoK C n A m Hm env σ H es) : ExK C n A m Hm env σ H [.Return (some (.BoolOp .And es pos)) pos'] := by
 intro w Q E R B F K
 refine wpAny_execs_cons (wpAny_Return_some ?_)
 rw [arm_eval_BoolOp]
 exact h w _ _ _ R B F K
theorem BSt.addFrame {w : Wd} {p : Nat} (B : BSt C w H) (F : FSt C w env σ) (hp : p ≤ H.length) (hc : Cl (H.take p)) (hU : ∀ i P, H[i]? = some (HObj.sem P) → i < p → Ups P) (h1 : env.locals ≠ sysModules) :
  BSt C ⟨w.ρ.take p ++ [env.locals], w.π, w.s⟩ (H.take p ++ [HObj.sem (frameA p env.locals)]) := by
 have Bl := (B.lower p hc hp).1
 have hL : DictAt ⟨w.ρ.take p, w.π, w.s⟩ env.locals := by
  obtain ⟨_, ⟨o', es, ep, ho', hd, _⟩, _⟩ := F.ns
  exact ⟨o', es, _, ho', hd⟩
 have hlen : (w.ρ.take p).length = p := by rw [List.length_take, B.len]; lia
 have hlenH : (H.take p).length = p := by rw [List.length_take]; lia
 refine ⟨B.stays, fun a m => ?_, ?_, by simp [hlen, hlenH], fun i a o e1 e2 => ?_, fun a m => ?_, B.tok, fun i P e => ?_⟩
 ·rcases List.mem_append.mp m with m | m
  ·exact Bl.out a m
  ·rw [List.mem_singleton.mp m]
   exact ⟨F.own _ (.head _), h1⟩
 ·refine List.nodup_append.mpr ⟨Bl.nodup, by simp, fun b m c m' => ?_⟩
  rw [List.mem_singleton.mp m']
  exact fun q => F.out (q ▸ List.mem_of_mem_take m)
 ·by_cases q : i < p
  ·have e1' : (w.ρ.take p)[i]? = some a := by rw [← e1]; exact (List.getElem?_append_left (by rw [hlen]; exact q)).symm
   have e2' : (H.take p)[i]? = some o := by rw [← e2]; exact (List.getElem?_append_left (by rw [hlenH]; exact q)).symm
   cases Bl.obj i a o e1' e2' with
   | list e r d => exact .list e (VRels.up hL r d) d
   | @sem P ob e r =>
    refine .sem e (hU i P ?_ q _ _ _ hL r)
    rw [List.getElem?_take_of_lt q] at e2'; exact e2'
  ·have hi : i = p := by
    have := (List.getElem?_eq_some_iff.mp e1).1
    simp [hlen] at this; lia
   have ea : a = env.locals := by
    have e1' : (w.ρ.take p ++ [env.locals])[i]? = some a := e1
    rw [hi, List.getElem?_append_right (by lia), hlen, Nat.sub_self] at e1'
    simpa using e1'.symm
   have eo : o = HObj.sem (frameA p env.locals) := by
    rw [hi, List.getElem?_append_right (by lia), hlenH, Nat.sub_self] at e2
    simpa using e2.symm
   rw [ea, eo]
   obtain ⟨o', es, ep, h2, h3⟩ := hL
   refine .sem h2 ⟨?_, es, ep, h3⟩
   show (w.ρ.take p ++ [env.locals])[p]? = _
   rw [List.getElem?_append_right (by lia), hlen, Nat.sub_self]; rfl
 ·obtain ⟨h2, h3⟩ := Bl.pins a m
  refine ⟨fun z => (List.mem_append.mp z).elim h2 fun z => F.pin _ (.head _) ((List.mem_singleton.mp z) ▸ m), h3⟩
 ·rw [List.length_append, hlenH]
  by_cases q : i < (H.take p).length
  ·rw [List.getElem?_append_left q] at e
   exact Nat.le_trans (hc i P e) (by rw [hlenH]; simp)
  ·rw [List.getElem?_append_right (by exact Nat.le_of_not_lt (by assumption))] at e
   have : i - (H.take p).length = 0 := by
    have := (List.getElem?_eq_some_iff.mp e).1
    simp at this; lia
   rw [this] at e
   cases e
   exact Nat.le_refl _
theorem EvK'.call {f : V} {id : Str} {es : List PySem.Expr} {j q : Nat} (hA : A.frames = some [env]) (hfr : env.frame = some env.locals) (h3 : env.locals ≠ sysModules) (hf : Ev C n env σ H (.Name id p) H f) (hfd : f.dat = true) (ha : EvA C n env σ H pos es [] H [.ref j] [])
  (hc : FnO C n f [.ref j] (H.take q ++ [HObj.sem (frameA q env.locals)]) (H.take q ++ [HObj.sem (frameA q env.locals)]) (.bool true)) (hk : Kp C f) (hp : ∀ env : Env, ((backTo pos (starEach es env)).any (·.1) || (backToKw pos (keywordEach [] env)).any (·.1.isNone)) = false)
  (hj : j < q) (hq : q ≤ H.length) (hcl : Cl (H.take q)) (hU : ∀ i P, H[i]? = some (HObj.sem P) → i < q → Ups P) (hm : m ≤ q) (hHm : Hm = H.take m) (hclm : Cl (H.take m)) : EvK' C n A m Hm env σ H (.Call (.Name id p) es [] pos) := by
 intro w Q E R B F K
 refine wpAny_Call_Name_kw (hf A w _ E R B F fun w1 g S1 B1 F1 r1 => ?_)
 refine callWith_of (P := KpAt C g) (hp env) (fun q_ z => z) (ha A w1 g _ E R B1 F1 fun w2 ys zs S2 B2 F2 r2 r3 => ⟨hk w2 H g B2 (r1.step0 S2), ?_⟩)
 cases r3.inv0
 obtain ⟨y0, rfl, ry⟩ := r2.inv1
 cases ry with | @ref _ a ej =>
 have hlen : (w2.ρ.take q).length = q := by rw [List.length_take, B2.len]; lia
 have hlenH : (H.take q).length = q := by rw [List.length_take]; lia
 have BL := B2.addFrame F2 hq hcl hU h3
 have S02 := F.wide (S1.trans S2)
 have rf : VRel (Wd.add ⟨w2.ρ.take q, w2.π, w2.s⟩ env.locals) f g := by
  have hL : DictAt ⟨w2.ρ.take q, w2.π, w2.s⟩ env.locals := by
   obtain ⟨_, ⟨o', es, ep, ho', hd, _⟩, _⟩ := F2.ns
   exact ⟨o', es, _, ho', hd⟩
  exact VRel.up hL ((r1.step0 S2).dat (w := w2) (w' := ⟨w2.ρ.take q, w2.π, w2.s⟩) rfl (fun a h => List.mem_of_mem_take h) hfd) hfd
 have ra : VRels (Wd.add ⟨w2.ρ.take q, w2.π, w2.s⟩ env.locals) [.ref j] [.ref a] := by
  refine .cons (.ref ?_) .nil
  show (w2.ρ.take q ++ [env.locals])[j]? = some a
  rw [List.getElem?_append_left (by lia), List.getElem?_take_of_lt hj]; exact ej
 have hout : OutT (H.take q ++ [HObj.sem (frameA q env.locals)]) [env] := ⟨fun e me => by
  rw [List.mem_singleton.mp me]
  exact ⟨F.kind, hfr, q, by rw [List.getElem?_append_right (by lia), hlenH, Nat.sub_self]; rfl⟩⟩
 refine wpAny_call (hc A [env] (Wd.add ⟨w2.ρ.take q, w2.π, w2.s⟩ env.locals) _ g [.ref a] R hA hout BL rf ra fun w3 y S3 B3 ry => ?_)
 refine K y w3.s (Post.back S02 (by rw [B.len]; exact Nat.le_trans (by assumption) (by assumption)) ?_)
 obtain ⟨_, rfl⟩ := ry.inv
 obtain ⟨δ, hδ, _⟩ := S3.rho
 have hsub : ∀ a, a ∉ w2.ρ → a ∉ fw env → a ∉ (Wd.add ⟨w2.ρ.take q, w2.π, w2.s⟩ env.locals).ρ := fun a h1 h2 z => by
  rcases List.mem_append.mp z with z | z
  ·exact h1 (List.mem_of_mem_take z)
  ·rw [List.mem_singleton.mp z] at h2; exact h2 (.head _)
 have Bm := (B3.lower m (by rw [List.take_append_of_le_length (by lia), List.take_take, Nat.min_eq_left hm]; exact hclm) (by rw [List.length_append, hlenH]; lia)).1
 rw [List.take_append_of_le_length (by lia), List.take_take, Nat.min_eq_left hm, ← hHm] at Bm
 refine ⟨rfl, ⟨w3.ρ.take m, w3.π, w3.s⟩, rfl, ?_, S3.pin, fun a o e n1 n2 => S3.keep a o e (hsub a n1 n2) (fun z => nomatch z), fun a o e q_ => S3.live a o e (fun z => nomatch z), S3.gens, S3.os, S3.tk, Bm⟩
 show w3.ρ.take m = w2.ρ.take m
 rw [hδ]
 show (w2.ρ.take q ++ [env.locals] ++ δ).take m = _
 rw [List.append_assoc, List.take_append_of_le_length (by lia), List.take_take, Nat.min_eq_left hm]
noncomputable def FnL (C : Ct) (n : Nat) (f : V) (args : List V) (H : List HObj) : Prop :=
 ∀ (A : Around) (w : Wd) (R : Result → Shared → Prop) (g : Value) (xs : List Value), Room A n → A.frames = some [] → BSt C w H → VRel w f g → VRels w args xs →
  (∀ w', Step [] w w' → BSt C w' H → R (.ok (.ret (.bool true))) w'.s) → codeAny C.M A (.call g ⟨xs, []⟩) R w.s
theorem FnL.ofDef {f : Addr} {fd : FuncData} {oc : Value} {od : Option Addr} {osl : Array (Option Value)} {body : List Stmt} {args : List V} {ns : List Str} {vs : List V}
  (ho : C.K.lookup f = some ⟨oc, od, .func fd, osl⟩) (hb : fd.body = .stmts body) (hst : fdOk fd = true) (hcd : codeIn C.K fd.code fd.qualname = true) (hns : namesOk fd ns = true) (hnd : ns.Nodup)
  (hbind : BindsX C fd args [] ns vs H H) (hbody : ∀ (A : Around) (env : Env), env.scope = fd.scope → A.frames = some [env] → env.frame = some env.locals → env.locals ≠ sysModules → ExK C n A H.length H env (ns.zip vs) H body) : FnL C (n + 1) (.val (.ref f)) args H := by
 intro A w0 R' g xs R hfr B0 rg rx K
 refine FnC.enter (kw := []) (ks := []) ho hb hst hcd hns hnd hbind R B0 rg rx .nil fun w w1 L S0 X1 eL notX B1 F1 => ?_
 have h3 : L ≠ sysModules := by
  obtain ⟨o, _, _, e, _⟩ := C.g
  have h0 := B0.stays _ o e
  have h1 := S0.keep _ o h0 (fun m => by rw [(B0.out _ m).1] at e; cases e) (fun z => nomatch z)
  have := Heap.lt_size h1
  rw [← eL] at this
  intro q; rw [q] at this; exact absurd this (by decide)
 have q := hbody (A.deeper (callEnvC fd L f)) (callEnvC fd L f) rfl (frames_deeper hfr _) rfl h3 w1 (fun fl s₂ => R' (.ok (.ret (match fl with | .ret v => v | _ => .none))) s₂)
  (fun e s₂ => wpAny C.M (A.deeper (callEnvC fd L f)) (leaving (callEnvC fd L f) e) (fun q_ s'' => R' (.error e) s'') (fun e' s'' => R' (.error e') s'') s₂)
  R.deeper B1 F1 fun y s' P => ?_
 ·exact wpAny_mono q (fun fl s₂ z => by cases fl <;> exact z) fun q_ q_ z => z
 ·obtain ⟨rfl, w', rfl, h2, h4, h5, h6, h7, h8, h9, h10⟩ := P
  have er : w'.ρ = w.ρ := by rw [h2, X1.rho, List.take_of_length_le]; rw [← X1.rho, B1.len]; exact Nat.le_refl _
  have S : Step [] w w' := ⟨⟨[], by rw [er, List.append_nil], fun q_ m => nomatch m⟩, fun a o e n q_ => h5 a o (X1.keep a o e) (by rw [X1.rho]; exact n) (notX a o e), fun a o e q_ => h6 a o (X1.keep a o e) (notX a o e), h7.trans X1.gens, h8.trans X1.os, h4.trans X1.pin, Nat.le_trans X1.tk h9⟩
  exact K w' (S0.trans S) h10
end
end
section
noncomputable abbrev Ct.raw (C : Ct) : Ct := { C with tp := False }
theorem BSt.raw {C : Ct} {w : Wd} {H : List HObj} (B : BSt C w H) : BSt C.raw w H := ⟨B.stays, B.out, B.nodup, B.len, B.obj, B.pins, fun h => h.elim, B.tops⟩
theorem BSt.cook {C : Ct} {w : Wd} {H : List HObj} (B : BSt C.raw w H) (h : 0 < w.s.toks) : BSt C w H := ⟨B.stays, B.out, B.nodup, B.len, B.obj, B.pins, fun q_ => h, B.tops⟩
theorem FSt.cook {C : Ct} {w : Wd} {env : Env} {σ : Loc} (F : FSt C.raw w env σ) : FSt C w env σ := ⟨F.own, F.glob, F.bltn, F.kind, F.ns, F.out, F.cells, F.nodup, F.full, F.pin⟩
noncomputable def Es0 (C : Ct) (n : Nat) (env : Env) (σ : Loc) (H : List HObj) (st : PySem.Stmt) (σ1 : Loc) (H1 : List HObj) : Prop :=
 ∀ (A : Around) (w : Wd) (Q : Flow → Shared → Prop) (E : Value → Shared → Prop), Room A n → BSt C.raw w H → FSt C.raw w env σ → (∀ w', Step (fw env) w w' → BSt C w' H1 → FSt C w' env σ1 → Q .next w'.s) → wpAny C.M A (exec st env) Q E w.s
noncomputable def Ev0 (C : Ct) (n : Nat) (env : Env) (σ : Loc) (H : List HObj) (e : PySem.Expr) (H' : List HObj) (v : V) : Prop :=
 ∀ (A : Around) (w : Wd) (Q E : Value → Shared → Prop), Room A n → BSt C.raw w H → FSt C.raw w env σ → (∀ w' y, Step [] w w' → BSt C w' H' → FSt C w' env σ → VRel w' v y → Q y w'.s) → wpAny C.M A (eval e env) (fun v s => Q v s) E w.s
noncomputable def SrcE0 (C : Ct) (n : Nat) (env : Env) (σ : Loc) (H : List HObj) (iter : PySem.Expr) (H1 : List HObj) (Ok : List HObj → Prop) (T : PySem.Expr → Bool) (l : List V) : Prop :=
 ∀ (A : Around) (w : Wd), Room A n → BSt C.raw w H → FSt C.raw w env σ → SrcAt C n A env σ w iter H1 Ok T l
section
variable {C : Ct} {n m : Nat} {A : Around} {Hm : List HObj} {env : Env} {σ σ' σ1 : Loc} {H H' H0 H1 H2 H3 : List HObj} {pos p pos' cpos tpos : Pos} {k tk : Nat} {x : Str} {v v1 v2 v3 : V} {e e1 e2 e3 : PySem.Expr} {st : PySem.Stmt} {rest : List PySem.Stmt} {es : List PySem.Expr} {vs : List V} {i : Int}
theorem SrcE0.enum (hs : nsIn C.K mainGlobals (Str.ofString "enumerate") = some Option.none) (hsb : bootBuiltins (Str.ofString "enumerate") = some (.type "enumerate")) (hx : env.kindOf (Str.ofString "enumerate") = some .globalImplicit)
  (h2 : EvL C n env σ H tpos es H vs) (hl : vs.length + 1 ≤ sizeLine) : SrcE0 C n env σ H (.Call (.Name (Str.ofString "enumerate") p) [.Tuple (.Constant (.int i) k cpos :: es) tk tpos] [] pos) H (fun q_ => True) isTupT (enumV (.int i :: vs)) := by
 intro A w R B F Q E K
 refine wpAny_Call_Name_kw (name_blt (C := C.raw) B F hs hsb (by decide) hx (by decide) ?_)
 refine callWith_of (P := fun q_ => True) rfl (fun q_ q_ => ⟨.machine, .inr (.inl rfl), Looks.of_pure rfl⟩) ?_
 refine Calls.evalArgs_plain (spliced_cons (wpAny_Tuple (k := tk) ?_))
 refine args_cons (wpAny_Constant_int ?_) rfl
 have B1 : BSt C ⟨w.ρ, w.π, { w.s with toks := w.s.toks + 1 }⟩ H := (B.ext Ext.toks).cook (Nat.succ_pos _)
 have F1 : FSt C ⟨w.ρ, w.π, { w.s with toks := w.s.toks + 1 }⟩ env σ := (F.ext Ext.toks).cook
 refine h2 A ⟨w.ρ, w.π, { w.s with toks := w.s.toks + 1 }⟩ _ E R B1 F1 fun w2 ys S2 B2 F2 r2 => ⟨by rw [List.length_cons, r2.length]; exact hl, ?_⟩
 have X : Ext w2 ⟨w2.ρ, w2.π, { w2.s with heap := w2.s.heap.push { cls := .type "tuple", data := .seq (Value.int i w.s.toks :: ys).toArray } }⟩ := Ext.push _
 have rt : VRel ⟨w2.ρ, w2.π, { w2.s with heap := w2.s.heap.push { cls := .type "tuple", data := .seq (Value.int i w.s.toks :: ys).toArray } }⟩ (.tup (.int i :: vs)) (.ref w2.s.heap.objs.size) :=
  .tup (n := 0) (Heap.get?_push_size _ rfl) (B2.fresh (size_none _)) (.cons (.int _ _) (r2.ext X))
 refine spliced_nil ⟨trivial, ?_⟩
 have S1 : Step [] w ⟨w2.ρ, w2.π, { w2.s with heap := w2.s.heap.push { cls := .type "tuple", data := .seq (Value.int i w.s.toks :: ys).toArray } }⟩ := (Ext.toks.step.trans S2).trans X.step
 exact FnI.enumT A ⟨w2.ρ, w2.π, { w2.s with heap := w2.s.heap.push { cls := .type "tuple", data := .seq (Value.int i w.s.toks :: ys).toArray } }⟩ Q E (.type "enumerate") [.ref w2.s.heap.objs.size] R (B2.ext X) (.val _) (.cons rt .nil) fun w4 it Y P P' S4 B4 hY N p4 =>
  K _ w4 it Y P P' S1 (B2.ext X) (F2.ext X) S4 B4 hY N p4
theorem SrcE0.eql {iter : PySem.Expr} {Ok : List HObj → Prop} {T : PySem.Expr → Bool} {l l' : List V} (h : SrcE0 C n env σ H iter H1 Ok T l) (q : l = l') : SrcE0 C n env σ H iter H1 Ok T l' := q ▸ h
theorem Ev0.comp {S scope : Scope} {elt target iter : PySem.Expr} {ifs : List PySem.Expr} {Ok : List HObj → Prop} {T : PySem.Expr → Bool} {l rs : List V} (hS : env.scope = S) (he : SrcE0 C n env σ H iter H1 Ok T l) (hT : T target = true) (hOk : ∀ K, Ok (H1 ++ K)) (ok : compOk scope S = true)
  (hco : ∀ cenv : Env, cenv.scope = relS scope S → Co C n cenv target ifs elt (inner scope σ) H1 l rs) (hlen : l.length ≤ sizeLine) (hfold : ∀ (env : Env) x, foldedSetIterable iter env x = pure x) (hH : H.length ≤ H1.length) :
  Ev0 C n env σ H (.ListComp elt [⟨target, iter, ifs, 0⟩] scope pos) H1 (.lst rs) := by
 subst hS
 intro A w Q E R B F K
 exact Ev.compAt hT hOk ok hco hlen hfold (by rw [B.len]; exact hH) R F.cook (he A w R B F) K
theorem Ev0.eqv (h : Ev0 C n env σ H e H1 v) (q : v = v1) : Ev0 C n env σ H e H1 v1 := q ▸ h
theorem Es0.assign (h : Ev0 C n env σ H e H1 v) (hk : Sto env x) (hs : swapsWith e (some (.Name x pos')) pos.line env = pure false) : Es0 C n env σ H (.Assign [.Name x pos'] e pos) ((x, v) :: σ) H1 := by
 intro A w Q E R B F K
 refine wpAny_Assign_Name (h A w _ E R B F fun w1 y1 S1 B1 F1 r1 => ?_) hs
 exact store B1 F1 r1 hk fun w2 S2 B2 F2 => K w2 (F.cook.swide S1 S2) B2 F2
theorem ExK.first (h1 : Es0 C n env σ H st σ1 H1) (h2 : ExK C n A m Hm env σ1 H1 rest) (hm : m ≤ H.length) : ExK C.raw n A m Hm env σ H (st :: rest) := by
 intro w Q E R B F K
 refine wpAny_execs_cons (h1 A w _ E R B F fun w1 S1 B1 F1 => ?_)
 refine h2 w1 Q E R B1 F1 fun y s' P => K y s' ?_
 obtain ⟨e, w', g1, g2, g3, g4, g5, g6, g7, g8, g9⟩ := P.back S1 (by rw [B.len]; exact hm)
 exact ⟨e, w', g1, g2, g3, g4, g5, g6, g7, g8, g9.raw⟩
end
end
theorem bn : @builtinNamed = @builtinNamed := rfl
name_quick tw11923230724223321954 for builtinNamed by bn
name_quick tw16749248132799102522 for builtinNamed by bn
name_quick tw16121774921232595956 for builtinNamed by bn
name_quick tw8274617355337158724 for builtinNamed by bn
name_quick tw16261180843640518773 for builtinNamed by bn
name_quick tw13904249003709096445 for builtinNamed by bn
name_quick tw5663541349230124792 for builtinNamed by bn
name_quick tw10735702015811489822 for builtinNamed by bn
name_quick tw10399591924426211538 for builtinNamed by bn
name_quick tw11965763231059624448 for builtinNamed by bn
name_quick tw5732075526266625961 for builtinNamed by bn
name_quick tw9679676444436780104 for builtinNamed by bn
name_quick tw2200998565627064314 for builtinNamed by bn
name_quick tw3404249539038697258 for builtinNamed by bn
name_quick tw14010406561769542510 for builtinNamed by bn
name_quick tw3761639342519769690 for builtinNamed by bn
name_quick tw3770357417709673670 for builtinNamed by bn
name_quick tw16943964044998973193 for builtinNamed by bn
name_quick tw1448652330557175482 for builtinNamed by bn
name_quick tw12928370483043617832 for builtinNamed by bn
name_quick tw2394181495959460736 for builtinNamed by bn
name_quick tw8804879261761072789 for builtinNamed by bn
name_quick tw3402389401599200895 for builtinNamed by bn
name_quick tw3731605617623227564 for builtinNamed by bn
name_quick tw6730346432510582541 for builtinNamed by bn
name_quick tw5776080784780333459 for builtinNamed by bn
name_quick tw11614452446944753575 for builtinNamed by bn
name_quick tw4133403419142771935 for builtinNamed by bn
name_quick tw7185480405855398711 for builtinNamed by bn
name_quick tw18211911604347877720 for builtinNamed by bn
name_quick tw16624794118083096269 for builtinNamed by bn
name_quick tw5410762500823838817 for builtinNamed by bn
name_quick tw7312128546447559977 for builtinNamed by bn
name_quick tw2211717410802697921 for builtinNamed by bn
name_quick tw823559550972934699 for builtinNamed by bn
name_quick tw108573204946769132 for builtinNamed by bn
name_quick tw5189722372411249446 for builtinNamed by bn
name_quick tw5255125947898627526 for builtinNamed by bn
name_quick tw5119669243639059790 for builtinNamed by bn
name_quick tw12939460979705012383 for builtinNamed by bn
name_quick tw3144462852806139829 for builtinNamed by bn
name_quick tw12886204215593983823 for builtinNamed by bn
name_quick tw16344835961867345966 for builtinNamed by bn
name_quick tw13456235933533597104 for builtinNamed by bn
name_quick tw8199083354232784352 for builtinNamed by bn
name_quick tw3814268553505254017 for builtinNamed by bn
name_quick tw12131328389965177680 for builtinNamed by bn
name_quick tw7054184058213561288 for builtinNamed by bn
name_quick tw206728835631910533 for builtinNamed by bn
name_quick tw516412143731175938 for builtinNamed by bn
name_quick tw15474904748469247318 for builtinNamed by bn
name_quick tw12180320065260903572 for builtinNamed by bn
name_quick tw11598678687704559316 for builtinNamed by bn
name_quick tw16036843563636463749 for builtinNamed by bn
name_quick tw7206140187582479469 for builtinNamed by bn
name_quick tw13795778085796573726 for builtinNamed by bn
name_quick tw1916594322364915613 for builtinNamed by bn
name_quick tw1101447756083538263 for builtinNamed by bn
name_quick tw14400744696842553213 for builtinNamed by bn
name_quick tw15365564630941746101 for builtinNamed by bn
name_quick tw7806187619691922140 for builtinNamed by bn
name_quick tw6867398233986729391 for builtinNamed by bn
name_quick tw6508196313394742719 for builtinNamed by bn
name_quick tw13179732145618481120 for builtinNamed by bn
name_quick tw11938669126300670445 for builtinNamed by bn
name_quick tw14926781732198338505 for builtinNamed by bn
name_quick tw998426150076886837 for builtinNamed by bn
name_quick tw9618055381787924985 for builtinNamed by bn
name_quick tw8080099208655815460 for builtinNamed by bn
name_quick tw15475394139601797210 for builtinNamed by bn
name_quick tw6647794298791838204 for builtinNamed by bn
name_quick tw14032725470580583277 for builtinNamed by bn
name_quick tw13393095987951754108 for builtinNamed by bn
name_quick tw14200811237902628493 for builtinNamed by bn
name_quick tw4357871311192440123 for builtinNamed by bn
name_quick tw12333093714559725771 for builtinNamed by bn
name_quick tw2557379623498094676 for builtinNamed by bn
name_quick tw4792681855750618000 for builtinNamed by bn
name_quick tw5870349589168413620 for builtinNamed by bn
name_quick tw14034753753787267373 for builtinNamed by bn
name_quick tw17625990394366337227 for builtinNamed by bn
name_quick tw3379443097349295391 for builtinNamed by bn
name_quick tw413617821847178576 for builtinNamed by bn
name_quick tw6887255485477257688 for builtinNamed by bn
name_quick tw5752153185771544670 for builtinNamed by bn
name_quick tw6262343049761662276 for builtinNamed by bn
name_quick tw4291702593190358797 for builtinNamed by bn
name_quick tw17681615934165951135 for builtinNamed by bn
name_quick tw12030622473921977654 for builtinNamed by bn
name_quick tw11639359237637447839 for builtinNamed by bn
name_quick tw4080027977658717170 for builtinNamed by bn
name_quick tw16492234362800661738 for builtinNamed by bn
name_quick tw10834310415771135609 for builtinNamed by bn
name_quick tw6854515143624772388 for builtinNamed by bn
name_quick tw958472835952535586 for builtinNamed by bn
name_quick tw2354002022784795663 for builtinNamed by bn
name_quick tw7084581933698714041 for builtinNamed by bn
name_quick tw6194881342863556772 for builtinNamed by bn
name_quick tw8968012788197797151 for builtinNamed by bn
name_quick tw14296308025822580168 for builtinNamed by bn
name_quick tw7116699004191237811 for builtinNamed by bn
name_quick tw16681891987846618806 for builtinNamed by bn
name_quick tw12757771422385996210 for builtinNamed by bn
name_quick tw6367940699900360662 for builtinNamed by bn
name_quick tw2317566314000815045 for builtinNamed by bn
name_quick tw294492323085060946 for builtinNamed by bn
name_quick tw7391123090107893407 for builtinNamed by bn
name_quick tw15629598846730994898 for builtinNamed by bn
name_quick tw7502771344331982686 for builtinNamed by bn
name_quick tw525026945551928809 for builtinNamed by bn
name_quick tw11050000311878763966 for builtinNamed by bn
name_quick tw4350685678259017843 for builtinNamed by bn
name_quick tw4739155299805235660 for builtinNamed by bn
name_quick tw9866322215126471251 for builtinNamed by bn
name_quick tw6839011026590484724 for builtinNamed by bn
name_quick tw11242525434290205282 for builtinNamed by bn
name_quick tw11450267222302415289 for builtinNamed by bn
name_quick tw4308336339328911768 for builtinNamed by bn
name_quick tw2156776102613891165 for builtinNamed by bn
name_quick tw10163500534232737784 for builtinNamed by bn
name_quick tw16137745388868247137 for builtinNamed by bn
name_quick tw14245688051358308148 for builtinNamed by bn
name_quick tw14283482136808045119 for builtinNamed by bn
name_quick tw7560223995137758923 for builtinNamed by bn
name_quick tw5458032366190517239 for builtinNamed by bn
name_quick tw4724360025935304232 for builtinNamed by bn
name_quick tw10596637189603151956 for builtinNamed by bn
name_quick tw8458469631458061859 for builtinNamed by bn
name_quick tw16236620183272444135 for builtinNamed by bn
name_quick tw356733724160428575 for builtinNamed by bn
name_quick tw17506230221641577041 for builtinNamed by bn
name_quick tw5732254825275402916 for builtinNamed by bn
name_quick tw8106224625803455178 for builtinNamed by bn
name_quick tw2301863228224697104 for builtinNamed by bn
name_quick tw12632751850609923162 for builtinNamed by bn
name_quick tw1975928076014131412 for builtinNamed by bn
name_quick tw9351138680583389234 for builtinNamed by bn
name_quick tw3039621338133990255 for builtinNamed by bn
name_quick tw16375932142086656108 for builtinNamed by bn
name_quick tw5994428104574901286 for builtinNamed by bn
name_quick tw15897092432799218155 for builtinNamed by bn
name_quick tw5485646031127680202 for builtinNamed by bn
name_quick tw3857230162895770966 for builtinNamed by bn
name_quick tw16084854380226533523 for builtinNamed by bn
name_quick tw3429027916381999479 for builtinNamed by bn
name_quick tw14602714277962619991 for builtinNamed by bn
name_quick tw8788827620237277146 for builtinNamed by bn
name_quick tw9904331761210164839 for builtinNamed by bn
name_quick tw13943765923340604575 for builtinNamed by bn
name_quick tw6590512114092438707 for builtinNamed by bn
name_quick tw18236215206949539464 for builtinNamed by bn
name_quick tw8653213693833258942 for builtinNamed by bn
name_quick tw11496778117275174415 for builtinNamed by bn
name_quick tw3028461013210796855 for builtinNamed by bn
name_quick tw16451718167769097183 for builtinNamed by bn
name_quick tw10331362366386316632 for builtinNamed by bn
name_quick tw10423114885246369217 for builtinNamed by bn
name_quick tw13985556904309608195 for builtinNamed by bn
name_quick tw16793166637398518547 for builtinNamed by bn
name_quick tw1746660695246120441 for builtinNamed by bn
name_quick tw14194069722020015570 for builtinNamed by bn
name_quick tw1889981351057464174 for builtinNamed by bn
name_quick tw10364266750589630296 for builtinNamed by bn
name_quick tw8205999123193095877 for builtinNamed by bn
name_quick tw16652355577615557126 for builtinNamed by bn
name_quick tw9173665030716809742 for builtinNamed by bn
name_quick tw9610969234853305855 for builtinNamed by bn
name_quick tw4452110148315537897 for builtinNamed by bn
name_quick tw1761020782836454767 for builtinNamed by bn
name_quick tw17874828968945491072 for builtinNamed by bn
name_quick tw9826696109176889392 for builtinNamed by bn
name_quick tw7529102915710232241 for builtinNamed by bn
name_quick tw9416868203988686371 for builtinNamed by bn
name_quick tw13742599688755262902 for builtinNamed by bn
name_quick tw11552322527250053704 for builtinNamed by bn
name_quick tw17016650694734967141 for builtinNamed by bn
name_quick tw2184462057537756862 for builtinNamed by bn
name_quick tw2653609823446241879 for builtinNamed by bn
name_quick tw4886543637479692265 for builtinNamed by bn
name_quick tw10540367569043230733 for builtinNamed by bn
name_quick tw15913310529066516151 for builtinNamed by bn
name_quick tw9021739693498012091 for builtinNamed by bn
name_quick tw3002401250711271658 for builtinNamed by bn
name_quick tw551777059958454585 for builtinNamed by bn
name_quick tw2685518621751329314 for builtinNamed by bn
name_quick tw6920581479127858521 for builtinNamed by bn
name_quick tw5475041314990828120 for builtinNamed by bn
name_quick tw9839180314712035927 for builtinNamed by bn
name_quick tw6174026306149873676 for builtinNamed by bn
name_quick tw11150393910866422747 for builtinNamed by bn
name_quick tw8800305208230903559 for builtinNamed by bn
name_quick tw13106768188514107245 for builtinNamed by bn
name_quick tw14757930775435612400 for builtinNamed by bn
name_quick tw1132912552361088526 for builtinNamed by bn
name_quick tw5518371980058121557 for builtinNamed by bn
name_quick tw1452166290654361856 for builtinNamed by bn
name_quick tw4647538463748115818 for builtinNamed by bn
name_quick tw11021957041363583079 for builtinNamed by bn
name_quick tw7399336927029532155 for builtinNamed by bn
name_quick tw6018684993691767231 for builtinNamed by bn
name_quick tw11212406295153637647 for builtinNamed by bn
name_quick tw13387969309739862377 for builtinNamed by bn
name_quick tw7415483618557096109 for builtinNamed by bn
name_quick tw2167677605858303878 for builtinNamed by bn
name_quick tw9093975109391164673 for builtinNamed by bn
name_quick tw14325589352455043995 for builtinNamed by bn
name_quick tw7426219520969948196 for builtinNamed by bn
name_quick tw11330830001273552210 for builtinNamed by bn
name_quick tw12547116336121714323 for builtinNamed by bn
name_quick tw14754988232887392230 for builtinNamed by bn
name_quick tw7176217651422828849 for builtinNamed by bn
name_quick tw11092770313653936188 for builtinNamed by bn
name_quick tw3112508745544042351 for builtinNamed by bn
name_quick tw18351803384319495150 for builtinNamed by bn
name_quick tw17603958242723901609 for builtinNamed by bn
name_quick tw8231332780982569379 for builtinNamed by bn
name_quick tw16298636515271616941 for builtinNamed by bn
name_quick tw13137849648145128055 for builtinNamed by bn
name_quick tw12114359287883136649 for builtinNamed by bn
name_quick tw5947752353750524042 for builtinNamed by bn
name_quick tw18333455217149998611 for builtinNamed by bn
name_quick tw13619309191756648673 for builtinNamed by bn
name_quick tw18437156938138645028 for builtinNamed by bn
name_quick tw6255819877284499912 for builtinNamed by bn
name_quick tw4896295418343611303 for builtinNamed by bn
name_quick tw1921102464514206833 for builtinNamed by bn
name_quick tw8124380011972142132 for builtinNamed by bn
name_quick tw17184681877021286450 for builtinNamed by bn
name_quick tw8697770104804743225 for builtinNamed by bn
name_quick tw3775649037780462296 for builtinNamed by bn
name_quick tw12232089785076196153 for builtinNamed by bn
name_quick tw14177488201855495013 for builtinNamed by bn
name_quick tw2246904453048416719 for builtinNamed by bn
name_quick tw10714740384175899540 for builtinNamed by bn
name_quick tw7429883366381456024 for builtinNamed by bn
name_quick tw2977659643560462660 for builtinNamed by bn
name_quick tw1420317801978014526 for builtinNamed by bn
name_quick tw1720430553665709461 for builtinNamed by bn
name_quick tw14057401317755971289 for builtinNamed by bn
name_quick tw4897302462562622009 for builtinNamed by bn
name_quick tw1828541420847333042 for builtinNamed by bn
name_quick tw2560825583788955458 for builtinNamed by bn
name_quick tw7398578163268120959 for builtinNamed by bn
name_quick tw6702038042911381230 for builtinNamed by bn
name_quick tw15199908289244568926 for builtinNamed by bn
name_quick tw16285659128773840812 for builtinNamed by bn
name_quick tw16877496852062539341 for builtinNamed by bn
name_quick tw17996820863223682598 for builtinNamed by bn
name_quick tw593197008179704847 for builtinNamed by bn
name_quick tw7305839616347825966 for builtinNamed by bn
name_quick tw3981359608836321494 for builtinNamed by bn
name_quick tw15741864893965605406 for builtinNamed by bn
name_quick tw12087943397502095815 for builtinNamed by bn
name_quick tw2022733384074007658 for builtinNamed by bn
name_quick tw9907679789223139578 for builtinNamed by bn
name_quick tw7479646349595510139 for builtinNamed by bn
name_quick tw10258535662174309971 for builtinNamed by bn
name_quick tw17285850686692782775 for builtinNamed by bn
name_quick tw15055635014433170639 for builtinNamed by bn
name_quick tw3557211349409434782 for builtinNamed by bn
name_quick tw2760685133838807943 for builtinNamed by bn
name_quick tw5830886929444784247 for builtinNamed by bn
name_quick tw10451469623998319731 for builtinNamed by bn
name_quick tw4727884143873444506 for builtinNamed by bn
name_quick tw13849307176297752317 for builtinNamed by bn
name_quick tw9043515134435881927 for builtinNamed by bn
name_quick tw1346886669014527909 for builtinNamed by bn
name_quick tw6055993479784963536 for builtinNamed by bn
name_quick tw12243712790546022595 for builtinNamed by bn
name_quick tw2724245301060794160 for builtinNamed by bn
name_quick tw10515112606809057529 for builtinNamed by bn
name_quick tw12280504553790460193 for builtinNamed by bn
name_quick tw13088436795831007034 for builtinNamed by bn
name_quick tw9754059380002774057 for builtinNamed by bn
name_quick tw3338106226408980403 for builtinNamed by bn
name_quick tw850280230624088343 for builtinNamed by bn
name_quick tw13474877342083644833 for builtinNamed by bn
name_quick tw4914446951594647509 for builtinNamed by bn
name_quick tw11424938196948105029 for builtinNamed by bn
name_quick tw11320071481642392350 for builtinNamed by bn
name_quick tw14142125754801333916 for builtinNamed by bn
name_quick tw11713787040809068955 for builtinNamed by bn
name_quick tw3190909110625675793 for builtinNamed by bn
name_quick tw5783789728894269740 for builtinNamed by bn
name_quick tw1795258885880476964 for builtinNamed by bn
name_quick tw3438234393188757477 for builtinNamed by bn
name_quick tw5625852072373749832 for builtinNamed by bn
name_quick tw4549671227112265487 for builtinNamed by bn
name_quick tw4148781252687385994 for builtinNamed by bn
name_quick tw1811206666286042278 for builtinNamed by bn
name_quick tw12481973091344032043 for builtinNamed by bn
name_quick tw16563088911965662700 for builtinNamed by bn
name_quick tw73611677276599403 for builtinNamed by bn
name_quick tw2061846398384534993 for builtinNamed by bn
name_quick tw1145734971253192248 for builtinNamed by bn
name_quick tw13785385662938489591 for builtinNamed by bn
name_quick tw10947767284755381345 for builtinNamed by bn
name_quick tw3729584601893538121 for builtinNamed by bn
name_quick tw232152718734643933 for builtinNamed by bn
name_quick tw16416903838679101488 for builtinNamed by bn
name_quick tw7817422735984454146 for builtinNamed by bn
name_quick tw3649795832934547693 for builtinNamed by bn
name_quick tw7367069485780515190 for builtinNamed by bn
name_quick tw7815173081906711559 for builtinNamed by bn
name_quick tw9167687725335067186 for builtinNamed by bn
name_quick tw8465983466079458758 for builtinNamed by bn
name_quick tw18053640339581180602 for builtinNamed by bn
name_quick tw8839859341331760076 for builtinNamed by bn
name_quick tw15284833943363601583 for builtinNamed by bn
name_quick tw16571403778498137546 for builtinNamed by bn
name_quick tw5085712269351257178 for builtinNamed by bn
name_quick tw15693576151378356939 for builtinNamed by bn
name_quick tw13284474837839866873 for builtinNamed by bn
name_quick tw11273815477746817610 for builtinNamed by bn
name_quick tw7260799312245182736 for builtinNamed by bn
name_quick tw7846053592254530633 for builtinNamed by bn
name_quick tw10511896145124763915 for builtinNamed by bn
name_quick tw10869092699271824473 for builtinNamed by bn
name_quick tw15424424996727452824 for builtinNamed by bn
name_quick tw7756762658335865525 for builtinNamed by bn
name_quick tw466790281074509866 for builtinNamed by bn
name_quick tw4833504845298800782 for builtinNamed by bn
name_quick tw13876377399812685050 for builtinNamed by bn
name_quick tw15453318327068762163 for builtinNamed by bn
name_quick tw16511883835156018655 for builtinNamed by bn
name_quick tw12731790010285510402 for builtinNamed by bn
name_quick tw2563991144489806207 for builtinNamed by bn
name_quick tw13348686834197864846 for builtinNamed by bn
name_quick tw12093101723168780173 for builtinNamed by bn
name_quick tw8417394055310782396 for builtinNamed by bn
name_quick tw10996107997818355324 for builtinNamed by bn
name_quick tw9337721146641448583 for builtinNamed by bn
name_quick tw18004433858140460041 for builtinNamed by bn
name_quick tw8043623916899302999 for builtinNamed by bn
name_quick tw3242657912912190003 for builtinNamed by bn
name_quick tw8080218006951683659 for builtinNamed by bn
name_quick tw6203298026482010986 for builtinNamed by bn
name_quick tw3901264803602157335 for builtinNamed by bn
name_quick tw8665076644514555888 for builtinNamed by bn
name_quick tw4908835636121097630 for builtinNamed by bn
name_quick tw8015876386072676984 for builtinNamed by bn
name_quick tw870264336477352257 for builtinNamed by bn
name_quick tw3739765055604121049 for builtinNamed by bn
name_quick tw477759180602721038 for builtinNamed by bn
name_quick tw5133747033736495088 for builtinNamed by bn
name_quick tw10361216187229188308 for builtinNamed by bn
name_quick tw5248753220928464735 for builtinNamed by bn
name_quick tw1427432671798126968 for builtinNamed by bn
name_quick tw12430738321078173157 for builtinNamed by bn
name_quick tw18157404441077243877 for builtinNamed by bn
name_quick tw3704961400475315082 for builtinNamed by bn
name_quick tw4813559861863678806 for builtinNamed by bn
name_quick tw6617545806064982630 for builtinNamed by bn
name_quick tw10576278672720348065 for builtinNamed by bn
name_quick tw577327039371612283 for builtinNamed by bn
name_quick tw9398787195763293782 for builtinNamed by bn
name_quick tw450046670736358078 for builtinNamed by bn
name_quick tw5252821096695806044 for builtinNamed by bn
name_quick tw12662896041143296035 for builtinNamed by bn
name_quick tw3149174581807671481 for builtinNamed by bn
name_quick tw3250363693463013165 for builtinNamed by bn
name_quick tw10237003580726582263 for builtinNamed by bn
name_quick tw17660562056942898154 for builtinNamed by bn
name_quick tw15258423838000763930 for builtinNamed by bn
name_quick tw3439574719542944186 for builtinNamed by bn
name_quick tw14106300989869500086 for builtinNamed by bn
name_quick tw8441937545034002209 for builtinNamed by bn
name_quick tw10275077468189057789 for builtinNamed by bn
name_quick tw8490761678121217736 for builtinNamed by bn
name_quick tw249108917669291455 for builtinNamed by bn
name_quick tw5623271372193432179 for builtinNamed by bn
name_quick tw1628694972094317922 for builtinNamed by bn
name_quick tw14619833359347133388 for builtinNamed by bn
name_quick tw8080926267035946727 for builtinNamed by bn
name_quick tw13807998576741400965 for builtinNamed by bn
name_quick tw18428756722963827961 for builtinNamed by bn
name_quick tw2727892796474997336 for builtinNamed by bn
name_quick tw9226671448510679358 for builtinNamed by bn
name_quick tw6647885496232049738 for builtinNamed by bn
name_quick tw14052248712789764386 for builtinNamed by bn
name_quick tw7287104560607982333 for builtinNamed by bn
name_quick tw14825371036681623269 for builtinNamed by bn
name_quick tw6497210949690468458 for builtinNamed by bn
name_quick tw565654494296515880 for builtinNamed by bn
name_quick tw5112557912476278854 for builtinNamed by bn
name_quick tw1905889240529488495 for builtinNamed by bn
name_quick tw4177447020624889364 for builtinNamed by bn
name_quick tw14458105364912967300 for builtinNamed by bn
name_quick tw14282090275206422026 for builtinNamed by bn
name_quick tw11628100954477281052 for builtinNamed by bn
name_quick tw13961302009299035494 for builtinNamed by bn
name_quick tw5401990148561801319 for builtinNamed by bn
name_quick tw12657723770060543627 for builtinNamed by bn
name_quick tw1044990863152522072 for builtinNamed by bn
name_quick tw7114201742156798503 for builtinNamed by bn
name_quick tw9908309791706180263 for builtinNamed by bn
name_quick tw13531305155515807498 for builtinNamed by bn
name_quick tw17097675468096721449 for builtinNamed by bn
name_quick tw7105987236609473102 for builtinNamed by bn
name_quick tw11070722156294839807 for builtinNamed by bn
name_quick tw1243271397364235950 for builtinNamed by bn
name_quick tw8184653840075106303 for builtinNamed by bn
name_quick tw9687756136717774514 for builtinNamed by bn
name_quick tw7033759859906290226 for builtinNamed by bn
name_quick tw7789795981985531166 for builtinNamed by bn
name_quick tw15719007749675186350 for builtinNamed by bn
name_quick tw6334235199937104917 for builtinNamed by bn
name_quick tw4149765315389042625 for builtinNamed by bn
name_quick tw3776742555635847729 for builtinNamed by bn
name_quick tw14894216763165152381 for builtinNamed by bn
name_quick tw18102026191022894685 for builtinNamed by bn
name_quick tw9999583116438851293 for builtinNamed by bn
name_quick tw7556961199484899749 for builtinNamed by bn
name_quick tw10792561998377615726 for builtinNamed by bn
name_quick tw6124678597259953898 for builtinNamed by bn
name_quick tw13588448417649539966 for builtinNamed by bn
name_quick tw17246597621689667278 for builtinNamed by bn
name_quick tw9271391991943663860 for builtinNamed by bn
name_quick tw7211294506749241930 for builtinNamed by bn
name_quick tw12402185377134744677 for builtinNamed by bn
name_quick tw2735617168644781035 for builtinNamed by bn
name_quick tw6334494654306740470 for builtinNamed by bn
name_quick tw11781090817632636568 for builtinNamed by bn
name_quick tw9816263451587474705 for builtinNamed by bn
name_quick tw10304023316005966307 for builtinNamed by bn
name_quick tw10508630177193958271 for builtinNamed by bn
name_quick tw12104452757017743780 for builtinNamed by bn
name_quick tw11724591026389109030 for builtinNamed by bn
name_quick tw77814589052524919 for builtinNamed by bn
name_quick tw9937102132495041108 for builtinNamed by bn
name_quick tw16345254113633329717 for builtinNamed by bn
name_quick tw18047177226097856132 for builtinNamed by bn
name_quick tw1628124493455587895 for builtinNamed by bn
name_quick tw8409615636517982860 for builtinNamed by bn
name_quick tw1687186410683124756 for builtinNamed by bn
name_quick tw646327708921867593 for builtinNamed by bn
name_quick tw6256333750180084212 for builtinNamed by bn
name_quick tw14619686353055428052 for builtinNamed by bn
name_quick tw11738063378060309478 for builtinNamed by bn
name_quick tw7277140430887352438 for builtinNamed by bn
name_quick tw12125463184927168361 for builtinNamed by bn
name_quick tw3323808180752929035 for builtinNamed by bn
open_top hd01 for PySem.Challenge.rw_ta0122_01
section
noncomputable def BMain (mg : Str → Option Value) (h : Heap) : Prop := ∃ bm ob, mg "__builtins__" = some (.ref bm) ∧ bm ≠ builtinsNs ∧ h.get? bm = some ob ∧ ob.cls = .type "module" ∧ ob.dict = some builtinsNs ∧ ob.data = .plain
structure C1 where
 w : World
 mg : Str → Option Value
 mb : Str → Option Value
 h₀ : Heap
 X : (hd01.heap_39 w.params).In h₀
 g : h₀.Ns mainGlobals mg
 b : h₀.Ns builtinsNs mb
 nb : NoneBooked h₀
 lim : h₀.NoLimit
 blt : ∀ x : Str, x ≠ "__name__" → mb x = bootBuiltins x
 bm : BMain mg h₀
noncomputable abbrev C1.ct (c : C1) : Ct := { prog := PySem.Challenge.pw_ta0122_01, w := c.w, K := hd01.heap_39 c.w.params, mg := c.mg, mb := c.mb, h₀ := c.h₀, X := c.X, g := c.g, b := c.b, nb := c.nb, lim := c.lim, blt := c.blt, tp := True }
theorem kind_of {env : Env} {S : Scope} {x : Str} {k : NameKind} (h : env.scope = S) (e : S.names.lookup x = some k) : env.kindOf x = some k := by
 show env.scope.names.lookup x = some k
 rw [h]; exact e
theorem fnOf {c : C1} {n : Nat} {H H' : List HObj} {v : V} {o : Out} {f : Addr} {fd : FuncData} {oc : Value} {od : Option Addr} {osl : Array (Option Value)} {body : List PySem.Stmt} {args : List V} {kw : List (Str × V)} {ns : List Str} {vs : List V}
  (ho : (hd01.heap_39 c.w.params).lookup f = some ⟨oc, od, .func fd, osl⟩) (hb : fd.body = .stmts body) (hst : fdOk fd = true) (hcd : codeIn (hd01.heap_39 c.w.params) fd.code fd.qualname = true) (hns : namesOk fd ns = true) (hnd : ns.Nodup)
  (hbind : Binds c.ct fd args kw ns vs) (hbody : ∀ env : Env, env.scope = fd.scope → Ex c.ct n env (ns.zip vs) H body o) (hfin : Fin o v H') : Fn c.ct (n + 1) (.val (.ref f)) args kw H H' v := Fn.ofDef ho hb hst hcd hns hnd hbind hbody hfin
theorem fnOfE {c : C1} {n : Nat} {H H' : List HObj} {v : V} {o : Out} {f : Addr} {fd : FuncData} {oc : Value} {od : Option Addr} {osl : Array (Option Value)} {body : List PySem.Stmt} {args : List V} {kw : List (Str × V)} {ns : List Str} {vs : List V}
  (ho : (hd01.heap_39 c.w.params).lookup f = some ⟨oc, od, .func fd, osl⟩) (hb : fd.body = .stmts body) (hst : fdOk fd = true) (hcd : codeIn (hd01.heap_39 c.w.params) fd.code fd.qualname = true) (hns : namesOk fd ns = true) (hnd : ns.Nodup)
  (hbind : Binds c.ct fd args kw ns vs) (hbody : ∀ env : Env, env.scope = fd.scope → env.code = fd.code → env.qual = fd.qualname ++ ".<locals>." → Ex c.ct n env (ns.zip vs) H body o) (hfin : Fin o v H') : Fn c.ct (n + 1) (.val (.ref f)) args kw H H' v :=
 (FnC.ofDefE ho hb hst hcd hns hnd (Binds.wide hbind) hbody hfin).fn
theorem il {env : Env} {S : Scope} {x : Str} (h : env.scope = S) (e : S.names.lookup x = some .local) : Sto env x := .inl (kind_of h e)
section
variable {C : Ct} {fd : FuncData} {ns : List Str} {u v w z k : V} {s : Str}
theorem bind1 (h : ∀ a, Looks C.M C.h₀ (bindArgs fd ⟨[a], []⟩) (ns.zip [a])) : Binds C fd [u] [] ns [u] := fun q_ xs ks rx rk => by
 obtain ⟨a, rfl, r⟩ := rx.inv1
 obtain rfl := rk.inv0
 exact ⟨[a], .cons r .nil, h a⟩
theorem bind2 (h : ∀ a b, Looks C.M C.h₀ (bindArgs fd ⟨[a, b], []⟩) (ns.zip [a, b])) : Binds C fd [u, v] [] ns [u, v] := fun q_ xs ks rx rk => by
 obtain ⟨a, b, rfl, _⟩ := rx.inv2
 obtain rfl := rk.inv0
 exact ⟨[a, b], rx, h a b⟩
theorem bind3 (h : ∀ a b c, Looks C.M C.h₀ (bindArgs fd ⟨[a, b, c], []⟩) (ns.zip [a, b, c])) : Binds C fd [u, v, w] [] ns [u, v, w] := fun q_ xs ks rx rk => by
 obtain ⟨a, b, c, rfl, _⟩ := rx.inv3
 obtain rfl := rk.inv0
 exact ⟨[a, b, c], rx, h a b c⟩
theorem bind4 (h : ∀ a b c d, Looks C.M C.h₀ (bindArgs fd ⟨[a, b, c, d], []⟩) (ns.zip [a, b, c, d])) : Binds C fd [u, v, w, z] [] ns [u, v, w, z] := fun q_ xs ks rx rk => by
 obtain ⟨a, b, c, d, rfl, _⟩ := rx.inv4
 obtain rfl := rk.inv0
 exact ⟨[a, b, c, d], rx, h a b c d⟩
theorem bind21 (h : ∀ a b e, Looks C.M C.h₀ (bindArgs fd ⟨[a, b], [(s, e)]⟩) (ns.zip [a, b, e])) : Binds C fd [u, v] [(s, k)] ns [u, v, k] := fun q_ xs ks rx rk => by
 obtain ⟨a, b, rfl, _⟩ := rx.inv2
 obtain ⟨e, rfl, _⟩ := VRels.inv1 rk
 exact ⟨[a, b, e], rx.append rk, h a b e⟩
theorem bind31 (h : ∀ a b c e, Looks C.M C.h₀ (bindArgs fd ⟨[a, b, c], [(s, e)]⟩) (ns.zip [a, b, c, .none, e])) : Binds C fd [u, v, w] [(s, k)] ns [u, v, w, .none, k] := fun q_ xs ks rx rk => by
 obtain ⟨a, b, c, rfl, _⟩ := rx.inv3
 obtain ⟨e, rfl, r⟩ := VRels.inv1 rk
 exact ⟨[a, b, c, .none, e], rx.append (.cons .none rk), h a b c e⟩
theorem bind41 (h : ∀ a b c d e, Looks C.M C.h₀ (bindArgs fd ⟨[a, b, c, d], [(s, e)]⟩) (ns.zip [a, b, c, d, e])) : Binds C fd [u, v, w, z] [(s, k)] ns [u, v, w, z, k] := fun q_ xs ks rx rk => by
 obtain ⟨a, b, c, d, rfl, _⟩ := rx.inv4
 obtain ⟨e, rfl, _⟩ := VRels.inv1 rk
 exact ⟨[a, b, c, d, e], rx.append rk, h a b c d e⟩
end
theorem Fn.le {C : Ct} {m n : Nat} {f : V} {args : List V} {kw : List (Str × V)} {H H' : List HObj} {v : V} (h : Fn C m f args kw H H' v) (q : m ≤ n) : Fn C n f args kw H H' v :=
 fun A w Q E g xs ks R B rg rx rk K => h A w Q E g xs ks (R.le q) B rg rx rk K
theorem Fn.eq {C : Ct} {n : Nat} {f : V} {args : List V} {kw : List (Str × V)} {H H' : List HObj} {v v' : V} (h : Fn C n f args kw H H' v') (q : v' = v) : Fn C n f args kw H H' v := q ▸ h
section
variable {c : C1} {C : Ct} {n : Nat} {env : Env} {σ : Loc} {H H1 H2 H3 : List HObj} {x : Str} {pos : Pos} {y : Value} {v : V} {e1 e2 e3 : PySem.Expr} {b : Bool} {o : Out} {body orelse : List PySem.Stmt}
theorem gV (h : nsIn (hd01.heap_39 c.w.params) mainGlobals x = some (some y)) (hx : env.kindOf x = some .globalImplicit) (hd : (x == ("__debug__" : Str)) = false := by decide) : Ev c.ct n env σ H (.Name x pos) H (.val y) := Ev.globV h hx hd
theorem gB (h : nsIn (hd01.heap_39 c.w.params) mainGlobals x = some none) (hx : env.kindOf x = some .globalImplicit) (hb : bootBuiltins x = some y := by boot_by_name) (hn : x ≠ "__name__" := by decide) (hd : (x == ("__debug__" : Str)) = false := by decide) : Ev c.ct n env σ H (.Name x pos) H (.val y) := Ev.blt h hb hn hx hd
noncomputable def Cho (b : Bool) (P Q : Prop) : Prop := (b = true ∧ P) ∨ (b = false ∧ Q)
theorem Ev.ife (h : Tst C n env σ H e1 H1 b) (h2 : Cho b (Ev C n env σ H1 e2 H2 v) (Ev C n env σ H1 e3 H2 v)) : Ev C n env σ H (.IfExp e1 e2 e3 pos) H2 v := by
 rcases h2 with ⟨rfl, h2⟩ | ⟨rfl, h2⟩
 ·exact Ev.ifT h h2
 ·exact Ev.ifF h h2
end
end
set_option hygiene false in
local macro_rules | `(tactic| walk_at "t_of") => `(tactic| ((case ho => k_is); (case hb => exact rfl); (case hst => kernel_rfl); (case hcd => k_is); (case hns => kernel_rfl); (case hnd => decide)))
theorem fill0 : ∀ P, (hd01.heap_39 P).length = 0 → PySem.Challenge.rw_ta0122_01.prog = PySem.Challenge.rw_ta0122_01.prog := by
 k_fill
 intros; rfl
noncomputable def toldS : List String := ["(", ")", "[", "]", ":", ",", ";", "+", "-", "*", "/", "|", "&", "<", ">", "=", ".", "%", "{", "}", "==", "!=", "<=", ">=", "~", "^", "<<", ">>", "**", "+=", "-=", "*=", "/=", "%=", "&=", "|=", "^=", "<<=", ">>=", "**=", "//", "//=", "@", "@=", "->", "...", ":=", "!"]
noncomputable def toldL : List Str := toldS.map Str.ofString
noncomputable def EXT (P : Params) : Array DictEntry := match (hd01.heap_39 P).lookup 87 with
 | some ⟨_, _, .dict es _, _⟩ => es
 | _ => #[]
theorem ext_top_of {c : C1} {es : Array DictEntry} {n : Nat} (h1 : (hd01.heap_39 c.w.params).lookup 87 = some ⟨.type "dict", none, .dict es n, #[]⟩) (h2 : KeysLit c.w.params es.toList) : TopDict c.ct 87 (EXT c.w.params) := by
 have : EXT c.w.params = es := by unfold EXT; rw [h1]
 rw [this]
 exact ⟨n, h1, h2⟩
theorem ext_top (c : C1) : TopDict c.ct 87 (EXT c.w.params) := by
 refine' ext_top_of ?k1 ?k2
 case k1 => k_is
 case k2 => k_keys
noncomputable def vInt : Option Value → Option Int
 | some (.int i _) => some i
 | _ => none
theorem vInt_inv {v : Value} {i : Int} (h : vInt (some v) = some i) : ∃ t, v = .int i t := by
 cases v with
 | int j t => obtain rfl := Option.some.inj h; exact ⟨t, rfl⟩
 | _ => cases h
noncomputable def tokOf (P : Params) (x : Str) : Option Int := vInt (findBy Value.isStrOf (EXT P) x)
theorem told_all (P : Params) : (toldL.zipIdx.all fun p => tokOf P p.1 == some (7 + (p.2 : Int))) = true := by kernel_rfl
theorem tok_at (P : Params) {k : Nat} {x : Str} (h : toldL[k]? = some x) : ∃ t, findBy Value.isStrOf (EXT P) x = some (.int (7 + k) t) := by
 have q := List.all_eq_true.mp (told_all P) (x, k) (List.mem_zipIdx_iff_getElem?.mpr h)
 have q' : tokOf P x = some (7 + (k : Int)) := by simpa using q
 unfold tokOf at q'
 cases e : findBy Value.isStrOf (EXT P) x with
 | none => rw [e] at q'; cases q'
 | some v =>
  rw [e] at q'
  obtain ⟨t, rfl⟩ := vInt_inv q'
  exact ⟨t, rfl⟩
theorem fn_number_op (c : C1) (H : List HObj) {x : Str} {k : Nat} (hx : toldL[k]? = some x) : Fn c.ct 3 (.val (.ref 265)) [.str x] [] H H (.int (208 + k)) := by
 obtain ⟨t, ht⟩ := tok_at c.w.params hx
 refine Fn.eq (v' := .int (201 + (7 + k))) ?_ (by congr 1; lia)
 refine' fnOf (ns := [PySem.Str.ofString "name"]) (vs := [.str x]) ?ho ?hb ?hst ?hcd ?hns ?hnd ?hbind ?hbody ?hfin
 case ho => k_is
 case hb => exact rfl
 case hst => kernel_rfl
 case hcd => k_is
 case hns => kernel_rfl
 case hnd => decide
 case hbind =>
  intro w xs ks rx rk
  obtain ⟨_, _, rfl, a, r⟩ := rx.inv; obtain ⟨_, rfl⟩ := r.inv; obtain ⟨_, rfl⟩ := rk.inv; exact ⟨[_], .cons a .nil, Looks.of_pure rfl⟩
 case hbody =>
  intro env hS; dsimp only at hS
  refine' Ex.one (Es.ret (Ev.ife (Tst.cmp (Ev.loc rfl) (gV (by k_is) (kind_of hS rfl)) (Cmp.inDict (ext_top _) rfl)) (.inl ⟨by rw [ht]; rfl, Ev.bin Ev.int (Ev.sub (gV (by k_is) (kind_of hS rfl)) (Ev.loc rfl) (Itm.dict (ext_top _) ht (fun q_ => VRel.int _ _) (fun q_ q_ => rfl))) Bin.addInt⟩)))
 case hfin => first | exact Fin.ret | exact Fin.next
theorem fn_number_no (c : C1) (H : List HObj) {x : Str} (hx : findBy Value.isStrOf (EXT c.w.params) x = none) (hl : x.length < 2 ^ 60) : Fn c.ct 3 (.val (.ref 265)) [.str x] [] H H (.int (if x.length = 0 then 0 else 256)) := by
 by_cases h0 : x.length = 0
 ·refine Fn.eq (v' := .int 0) ?_ (by rw [if_pos h0])
  refine' fnOf (ns := [PySem.Str.ofString "name"]) (vs := [.str x]) ?ho ?hb ?hst ?hcd ?hns ?hnd ?hbind ?hbody ?hfin
  case ho => k_is
  case hb => exact rfl
  case hst => kernel_rfl
  case hcd => k_is
  case hns => kernel_rfl
  case hnd => decide
  case hbind =>
   intro w xs ks rx rk
   obtain ⟨_, _, rfl, a, r⟩ := rx.inv; obtain ⟨_, rfl⟩ := r.inv; obtain ⟨_, rfl⟩ := rk.inv; exact ⟨[_], .cons a .nil, Looks.of_pure rfl⟩
  case hbody =>
   intro env hS; dsimp only at hS
   refine' Ex.one (Es.ret (Ev.ife (Tst.cmp (Ev.loc rfl) (gV (by k_is) (kind_of hS rfl)) (Cmp.inDict (ext_top _) rfl)) (.inr ⟨by rw [hx]; rfl, Ev.ife (Tst.val (Ev.loc rfl) (Tru.str hl) rfl) (.inr ⟨by first | rfl | (simp [*]; done), Ev.int⟩)⟩)))
  case hfin => first | exact Fin.ret | exact Fin.next
 ·refine Fn.eq (v' := .int 256) ?_ (by rw [if_neg h0])
  refine' fnOf (ns := [PySem.Str.ofString "name"]) (vs := [.str x]) ?ho ?hb ?hst ?hcd ?hns ?hnd ?hbind ?hbody ?hfin
  case ho => k_is
  case hb => exact rfl
  case hst => kernel_rfl
  case hcd => k_is
  case hns => kernel_rfl
  case hnd => decide
  case hbind =>
   intro w xs ks rx rk
   obtain ⟨_, _, rfl, a, r⟩ := rx.inv; obtain ⟨_, rfl⟩ := r.inv; obtain ⟨_, rfl⟩ := rk.inv; exact ⟨[_], .cons a .nil, Looks.of_pure rfl⟩
  case hbody =>
   intro env hS; dsimp only at hS
   refine' Ex.one (Es.ret (Ev.ife (Tst.cmp (Ev.loc rfl) (gV (by k_is) (kind_of hS rfl)) (Cmp.inDict (ext_top _) rfl)) (.inr ⟨by rw [hx]; rfl, Ev.ife (Tst.val (Ev.loc rfl) (Tru.str hl) rfl) (.inl ⟨by first | rfl | (simp [*]; done), Ev.int⟩)⟩)))
  case hfin => first | exact Fin.ret | exact Fin.next
section
section
variable {c : C1} {C : Ct} {n : Nat} {env : Env} {σ : Loc} {H H1 H2 H3 : List HObj} {x : Str} {pos : Pos} {y : Value} {v : V} {e1 e2 e3 : PySem.Expr} {b : Bool} {o : Out} {body orelse : List PySem.Stmt}
set_option tactic.hygienic true in
theorem sub_cons {σ : Loc} {y : Str} {u : V} (h : σ.lookup y = none) : ∀ x v, σ.lookup x = some v → ((y, u) :: σ).lookup x = some v := by
 intro x v e
 simp only [List.lookup]
 split
 ·rename_i q; rw [beq_iff_eq.mp q, h] at e; cases e
 ·exact e
set_option tactic.hygienic true in
theorem sub_two {σ : Loc} {y z : Str} {u u' : V} (h : σ.lookup y = none) (h' : σ.lookup z = none) : ∀ x v, σ.lookup x = some v → ((y, u) :: (z, u') :: σ).lookup x = some v := fun x v e => by
 have := sub_cons (u := u') h' x v e
 simp only [List.lookup]
 split
 ·rename_i q; rw [beq_iff_eq.mp q, h] at e; cases e
 ·exact this
theorem Cmp.isB {a b : Bool} : Cmp C n .Is (.bool a) (.bool b) H (a == b) := by
 intro A w Q E x y R B rx ry K
 obtain ⟨_, rfl⟩ := rx.inv; obtain ⟨_, rfl⟩ := ry.inv
 show wpAny C.M A (do return .bool (← isSame (.bool a) (.bool b))) Q E w.s
 have : isSame (.bool a) (.bool b) = pure (a == b) := by cases a <;> cases b <;> rfl
 rw [this]
 exact wpAny_bind (wpAny_pure (wpAny_pure (K w (Step.refl _ _) B)))
theorem gI {i : Int} {t : Tok} (h : nsIn (hd01.heap_39 c.w.params) mainGlobals x = some (some (.int i t))) (hx : env.kindOf x = some .globalImplicit) (hd : (x == ("__debug__" : Str)) = false) : Ev c.ct n env σ H (.Name x pos) H (.int i) := Ev.glob h (fun q_ => .int _ _) hx hd
theorem Ev.compS {S scope : Scope} {elt target iter : PySem.Expr} {ifs : List PySem.Expr} {Ok : List HObj → Prop} {T : PySem.Expr → Bool} {l rs : List V} (hS : env.scope = S) (he : SrcE C n env σ H iter H1 Ok T l) (hT : T target = true) (hOk : ∀ K, Ok (H1 ++ K)) (ok : compOk scope S = true)
  (hco : ∀ cenv : Env, cenv.scope = relS scope S → Co C n cenv target ifs elt (inner scope σ) H1 l rs) (hlen : l.length ≤ sizeLine) (hfold : ∀ (env : Env) x, foldedSetIterable iter env x = pure x) (hH : H.length ≤ H1.length) :
  Ev C n env σ H (.ListComp elt [⟨target, iter, ifs, 0⟩] scope pos) H1 (.lst rs) := by subst hS; exact Ev.comp he hT hOk ok hco hlen hfold hH
theorem Es.compS {S scope : Scope} {elt target iter : PySem.Expr} {ifs : List PySem.Expr} {Ok : List HObj → Prop} {T : PySem.Expr → Bool} {l rs : List V} {x : Str} {pos' spos : Pos} (hS : env.scope = S) (he : SrcE C n env σ H iter H1 Ok T l) (hT : T target = true) (hOk : ∀ K, Ok (H1 ++ K)) (ok : compOk scope S = true)
  (hco : ∀ cenv : Env, cenv.scope = relS scope S → Co C n cenv target ifs elt (inner scope σ) H1 l rs) (hlen : l.length ≤ sizeLine) (hfold : ∀ (env : Env) x, foldedSetIterable iter env x = pure x) (hH : H.length ≤ H1.length) (hk : Sto env x)
  (hsw : ∀ env' : Env, env'.scope = S → swapsWith (.ListComp elt [⟨target, iter, ifs, 0⟩] scope pos) (some (.Name x pos')) spos.line env' = pure true) :
  Es C n env σ H (.Assign [.Name x pos'] (.ListComp elt [⟨target, iter, ifs, 0⟩] scope pos) spos) (.next ((x, .lst rs) :: σ) H1) := by subst hS; exact Es.comp he hT hOk ok hco hlen hfold hH hk (hsw _ rfl)
theorem Es.compTS {S scope : Scope} {elt target iter : PySem.Expr} {ifs : List PySem.Expr} {Ok : List HObj → Prop} {T : PySem.Expr → Bool} {l rs : List V} {x : Str} {pos' spos : Pos} (hS : env.scope = S) (he : SrcE C n env σ H iter H1 Ok T l) (hT : T target = true) (hOk : ∀ K, Ok (H1 ++ K)) (ok : compOk scope S = true)
  (hco : ∀ cenv : Env, cenv.scope = relS scope S → Co C n cenv target ifs elt (inner scope σ) H1 l rs) (hlen : l.length ≤ sizeLine) (hfold : ∀ (env : Env) x, foldedSetIterable iter env x = pure x) (hk : Sto env x)
  (hsw : ∀ env' : Env, env'.scope = S → swapsWith (.ListComp elt [⟨target, iter, ifs, 0⟩] scope pos) (some (.Name x pos')) spos.line env' = pure true) :
  Es C n env σ H (.Assign [.Name x pos'] (.ListComp elt [⟨target, iter, ifs, 0⟩] scope pos) spos) (.next ((x, .ref H1.length) :: σ) (H1 ++ [.list rs])) := by subst hS; exact Es.compT he hT hOk ok hco hlen hfold hk (hsw _ rfl)
end
theorem swaps_of {e : Env} {S : Scope} {value : PySem.Expr} {t : PySem.Expr} {line : Nat} {b : Bool} (he : e.scope = S) (h : ∀ e : Env, e.scope = S → swapsWith value (some t) line e = pure b) : swapsWith value (some t) line e = pure b := h e he
theorem Ev.ifTb {C : Ct} {n : Nat} {env : Env} {σ : Loc} {H H1 H2 : List HObj} {pos : Pos} {v : V} {e1 e2 e3 : PySem.Expr} {b : Bool} (h : Tst C n env σ H e1 H1 b) (hb : b = true) (h2 : Ev C n env σ H1 e2 H2 v) : Ev C n env σ H (.IfExp e1 e2 e3 pos) H2 v := Ev.ifT (hb ▸ h) h2
theorem Ev.ifFb {C : Ct} {n : Nat} {env : Env} {σ : Loc} {H H1 H2 : List HObj} {pos : Pos} {v : V} {e1 e2 e3 : PySem.Expr} {b : Bool} (h : Tst C n env σ H e1 H1 b) (hb : b = false) (h2 : Ev C n env σ H1 e3 H2 v) : Ev C n env σ H (.IfExp e1 e2 e3 pos) H2 v := Ev.ifF (hb ▸ h) h2
theorem Es.ifTb {C : Ct} {n : Nat} {env : Env} {σ : Loc} {H H1 : List HObj} {pos : Pos} {e : PySem.Expr} {b : Bool} {o : Out} {body orelse : List PySem.Stmt} (h : Tst C n env σ H e H1 b) (hb : b = true) (h2 : Ex C n env σ H1 body o) : Es C n env σ H (.If e body orelse pos) o := Es.ifT (hb ▸ h) h2
theorem Es.ifFb {C : Ct} {n : Nat} {env : Env} {σ : Loc} {H H1 : List HObj} {pos : Pos} {e : PySem.Expr} {b : Bool} {o : Out} {body orelse : List PySem.Stmt} (h : Tst C n env σ H e H1 b) (hb : b = false) (h2 : Ex C n env σ H1 orelse o) : Es C n env σ H (.If e body orelse pos) o := Es.ifF (hb ▸ h) h2
theorem BoT.nextb {C : Ct} {n : Nat} {env : Env} {σ : Loc} {op : BoolOp} {e : PySem.Expr} {es : List PySem.Expr} {H H1 H' : List HObj} {b b0 : Bool} (h : Tst C n env σ H e H1 b0) (hb : b0 = (op == .And)) (h2 : BoT C n env σ op es H1 H' b) : BoT C n env σ op (e :: es) H H' b := BoT.next (hb ▸ h) h2
theorem BoV.nextb {C : Ct} {n : Nat} {env : Env} {σ : Loc} {op : BoolOp} {e e2 : PySem.Expr} {es : List PySem.Expr} {H H1 H' : List HObj} {b0 : Bool} {v v' : V} (h : Ev C n env σ H e H1 v) (ht : Tru C n v H1 b0) (hb : b0 = (op == .And)) (h2 : BoV C n env σ op (e2 :: es) H1 H' v') (he : ∀ env : Env, evalEach (e :: e2 :: es) env = eval e env :: evalEach (e2 :: es) env) : BoV C n env σ op (e :: e2 :: es) H H' v' := BoV.next h (hb ▸ ht) h2 he
theorem kpK {c : C1} {f : Value} (h : keepIn (hd01.heap_39 c.w.params) f = true) : Kp c.ct (.val f) := Kp.ofK h
end
theorem g_insort_right (c : C1) : nsIn (hd01.heap_39 c.w.params) mainGlobals "insort_right" = some (some (.ref 47)) := by k_is
theorem kp_insort_right (c : C1) : Kp c.ct (.val (.ref 47)) := kpK (by k_is)
theorem g_bisect_right (c : C1) : nsIn (hd01.heap_39 c.w.params) mainGlobals "bisect_right" = some (some (.ref 56)) := by k_is
theorem kp_bisect_right (c : C1) : Kp c.ct (.val (.ref 56)) := kpK (by k_is)
theorem g_bisect_left (c : C1) : nsIn (hd01.heap_39 c.w.params) mainGlobals "bisect_left" = some (some (.ref 65)) := by k_is
theorem kp_bisect_left (c : C1) : Kp c.ct (.val (.ref 65)) := kpK (by k_is)
theorem g_rgb_to_hls (c : C1) : nsIn (hd01.heap_39 c.w.params) mainGlobals "rgb_to_hls" = some (some (.ref 72)) := by k_is
theorem kp_rgb_to_hls (c : C1) : Kp c.ct (.val (.ref 72)) := kpK (by k_is)
theorem g_rgb_to_hsv (c : C1) : nsIn (hd01.heap_39 c.w.params) mainGlobals "rgb_to_hsv" = some (some (.ref 79)) := by k_is
theorem kp_rgb_to_hsv (c : C1) : Kp c.ct (.val (.ref 79)) := kpK (by k_is)
theorem g_hsv_to_rgb (c : C1) : nsIn (hd01.heap_39 c.w.params) mainGlobals "hsv_to_rgb" = some (some (.ref 86)) := by k_is
theorem kp_hsv_to_rgb (c : C1) : Kp c.ct (.val (.ref 86)) := kpK (by k_is)
theorem g_EXACT_TOKEN_TYPES (c : C1) : nsIn (hd01.heap_39 c.w.params) mainGlobals "EXACT_TOKEN_TYPES" = some (some (.ref 87)) := by k_is
theorem g_ISTERMINAL (c : C1) : nsIn (hd01.heap_39 c.w.params) mainGlobals "ISTERMINAL" = some (some (.ref 96)) := by k_is
theorem kp_ISTERMINAL (c : C1) : Kp c.ct (.val (.ref 96)) := kpK (by k_is)
theorem g_ISNONTERMINAL (c : C1) : nsIn (hd01.heap_39 c.w.params) mainGlobals "ISNONTERMINAL" = some (some (.ref 103)) := by k_is
theorem kp_ISNONTERMINAL (c : C1) : Kp c.ct (.val (.ref 103)) := kpK (by k_is)
theorem g_ISEOF (c : C1) : nsIn (hd01.heap_39 c.w.params) mainGlobals "ISEOF" = some (some (.ref 110)) := by k_is
theorem kp_ISEOF (c : C1) : Kp c.ct (.val (.ref 110)) := kpK (by k_is)
theorem g_Headers (c : C1) : nsIn (hd01.heap_39 c.w.params) mainGlobals "Headers" = some (some (.ref 254)) := by k_is
theorem kp_Headers (c : C1) : Kp c.ct (.val (.ref 254)) := kpK (by k_is)
theorem g_law_number (c : C1) : nsIn (hd01.heap_39 c.w.params) mainGlobals "_law_number" = some (some (.ref 265)) := by k_is
theorem kp_law_number (c : C1) : Kp c.ct (.val (.ref 265)) := kpK (by k_is)
theorem g_law_kind (c : C1) : nsIn (hd01.heap_39 c.w.params) mainGlobals "_law_kind" = some (some (.ref 270)) := by k_is
theorem kp_law_kind (c : C1) : Kp c.ct (.val (.ref 270)) := kpK (by k_is)
theorem g_law_share (c : C1) : nsIn (hd01.heap_39 c.w.params) mainGlobals "_law_share" = some (some (.ref 277)) := by k_is
theorem kp_law_share (c : C1) : Kp c.ct (.val (.ref 277)) := kpK (by k_is)
theorem g_law_arc (c : C1) : nsIn (hd01.heap_39 c.w.params) mainGlobals "_law_arc" = some (some (.ref 282)) := by k_is
theorem kp_law_arc (c : C1) : Kp c.ct (.val (.ref 282)) := kpK (by k_is)
theorem g_law_cut (c : C1) : nsIn (hd01.heap_39 c.w.params) mainGlobals "_law_cut" = some (some (.ref 287)) := by k_is
theorem kp_law_cut (c : C1) : Kp c.ct (.val (.ref 287)) := kpK (by k_is)
theorem g_law_painted (c : C1) : nsIn (hd01.heap_39 c.w.params) mainGlobals "_law_painted" = some (some (.ref 294)) := by k_is
theorem kp_law_painted (c : C1) : Kp c.ct (.val (.ref 294)) := kpK (by k_is)
theorem g_law_heard (c : C1) : nsIn (hd01.heap_39 c.w.params) mainGlobals "_law_heard" = some (some (.ref 301)) := by k_is
theorem kp_law_heard (c : C1) : Kp c.ct (.val (.ref 301)) := kpK (by k_is)
theorem g_law_right (c : C1) : nsIn (hd01.heap_39 c.w.params) mainGlobals "_law_right" = some (some (.ref 306)) := by k_is
theorem kp_law_right (c : C1) : Kp c.ct (.val (.ref 306)) := kpK (by k_is)
theorem g_law_refused (c : C1) : nsIn (hd01.heap_39 c.w.params) mainGlobals "_law_refused" = some (some (.ref 313)) := by k_is
theorem kp_law_refused (c : C1) : Kp c.ct (.val (.ref 313)) := kpK (by k_is)
theorem g_law_ranked (c : C1) : nsIn (hd01.heap_39 c.w.params) mainGlobals "_law_ranked" = some (some (.ref 320)) := by k_is
theorem kp_law_ranked (c : C1) : Kp c.ct (.val (.ref 320)) := kpK (by k_is)
theorem g_name_disallowed_re (c : C1) : nsIn (hd01.heap_39 c.w.params) mainGlobals "_name_disallowed_re" = some (some (.ref 120)) := by k_is
theorem g_value_disallowed_re (c : C1) : nsIn (hd01.heap_39 c.w.params) mainGlobals "_value_disallowed_re" = some (some (.ref 125)) := by k_is
theorem g_NT_OFFSET (c : C1) : ∃ t, nsIn (hd01.heap_39 c.w.params) mainGlobals "NT_OFFSET" = some (some (.int 256 t)) := ⟨_, by k_is⟩
theorem g_ENDMARKER (c : C1) : ∃ t, nsIn (hd01.heap_39 c.w.params) mainGlobals "ENDMARKER" = some (some (.int 0 t)) := ⟨_, by k_is⟩
theorem g_list (c : C1) : nsIn (hd01.heap_39 c.w.params) mainGlobals "list" = some none := by k_is
theorem g_range (c : C1) : nsIn (hd01.heap_39 c.w.params) mainGlobals "range" = some none := by k_is
theorem g_enumerate (c : C1) : nsIn (hd01.heap_39 c.w.params) mainGlobals "enumerate" = some none := by k_is
theorem g_str (c : C1) : nsIn (hd01.heap_39 c.w.params) mainGlobals "str" = some none := by k_is
theorem g_int (c : C1) : nsIn (hd01.heap_39 c.w.params) mainGlobals "int" = some none := by k_is
theorem g_len (c : C1) : nsIn (hd01.heap_39 c.w.params) mainGlobals "len" = some none := by k_is
theorem g_sum (c : C1) : nsIn (hd01.heap_39 c.w.params) mainGlobals "sum" = some none := by k_is
theorem g_max (c : C1) : nsIn (hd01.heap_39 c.w.params) mainGlobals "max" = some none := by k_is
theorem g_min (c : C1) : nsIn (hd01.heap_39 c.w.params) mainGlobals "min" = some none := by k_is
theorem g_sorted (c : C1) : nsIn (hd01.heap_39 c.w.params) mainGlobals "sorted" = some none := by k_is
theorem g_type (c : C1) : nsIn (hd01.heap_39 c.w.params) mainGlobals "type" = some none := by k_is
theorem g_ValueError (c : C1) : nsIn (hd01.heap_39 c.w.params) mainGlobals "ValueError" = some none := by k_is
theorem gI' {c : C1} {n : Nat} {env : Env} {σ : Loc} {H : List HObj} {x : Str} {pos : Pos} {i : Int} (h : ∃ t, nsIn (hd01.heap_39 c.w.params) mainGlobals x = some (some (.int i t))) (hx : env.kindOf x = some .globalImplicit) (hd : (x == ("__debug__" : Str)) = false) : Ev c.ct n env σ H (.Name x pos) H (.int i) := by
 obtain ⟨t, h⟩ := h
 exact gI h hx hd
theorem fn_ISEOF (c : C1) (H : List HObj) {a : Int} : Fn c.ct 3 (.val (.ref 110)) [.int a] [] H H (.bool (a == 0)) := by
 refine' fnOf (ns := ["x"]) (vs := [.int a]) (o := .ret (.bool (a == 0)) H) ?ho ?hb ?hst ?hcd ?hns ?hnd ?hbind ?hbody ?hfin
 walk_at "t_of"
 case hbind => exact bind1 fun q_ => Looks.of_pure rfl
 case hbody =>
  intro env hS; dsimp only at hS
  exact (Ex.stop (Es.ret (Ev.cmp (Ev.loc rfl) (gI' (g_ENDMARKER _) (kind_of hS rfl) (by decide)) Cmp.eqI rfl)) (by intro _ _ h; cases h))
 case hfin => first | exact Fin.ret | exact Fin.next
theorem fn_ISTERMINAL (c : C1) (H : List HObj) {a : Int} : Fn c.ct 3 (.val (.ref 96)) [.int a] [] H H (.bool (decide (a < 256))) := by
 refine' fnOf (ns := ["x"]) (vs := [.int a]) (o := .ret (.bool (decide (a < 256))) H) ?ho ?hb ?hst ?hcd ?hns ?hnd ?hbind ?hbody ?hfin
 walk_at "t_of"
 case hbind => exact bind1 fun q_ => Looks.of_pure rfl
 case hbody =>
  intro env hS; dsimp only at hS
  exact (Ex.stop (Es.ret (Ev.cmp (Ev.loc rfl) (gI' (g_NT_OFFSET _) (kind_of hS rfl) (by decide)) (by exact Cmp.ltI) rfl)) (by intro _ _ h; cases h))
 case hfin => first | exact Fin.ret | exact Fin.next
theorem fn_ISNONTERMINAL (c : C1) (H : List HObj) {a : Int} : Fn c.ct 3 (.val (.ref 103)) [.int a] [] H H (.bool (decide (a ≥ 256))) := by
 refine' fnOf (ns := ["x"]) (vs := [.int a]) (o := .ret (.bool (decide (a ≥ 256))) H) ?ho ?hb ?hst ?hcd ?hns ?hnd ?hbind ?hbody ?hfin
 walk_at "t_of"
 case hbind => exact bind1 fun q_ => Looks.of_pure rfl
 case hbody =>
  intro env hS; dsimp only at hS
  exact (Ex.stop (Es.ret (Ev.cmp (Ev.loc rfl) (gI' (g_NT_OFFSET _) (kind_of hS rfl) (by decide)) (by exact Cmp.geI) rfl)) (by intro _ _ h; cases h))
 case hfin => first | exact Fin.ret | exact Fin.next
set_option tactic.hygienic true in
theorem kind_end (c : C1) (H : List HObj) {x : Str} {s : Int} (hn : Fn c.ct 3 (.val (.ref 265)) [.str x] [] H H (.int s)) (h1 : Fn c.ct 3 (.val (.ref 110)) [.int s] [] H H (.bool true)) (h2 : Fn c.ct 3 (.val (.ref 103)) [.int s] [] H H (.bool false)) (h3 : Fn c.ct 3 (.val (.ref 96)) [.int s] [] H H (.bool true)) :
  Fn c.ct 5 (.val (.ref 270)) [.str x] [] H H (.str "end") := by
 refine' fnOf (ns := ["name"]) (vs := [.str x]) (o := .ret (.str "end") H) ?ho ?hb ?hst ?hcd ?hns ?hnd ?hbind ?hbody ?hfin
 walk_at "t_of"
 case hbind => exact bind1 fun q_ => Looks.of_pure rfl
 case hbody =>
  intro env hS; dsimp only at hS
  exact (Ex.cons (Es.assign (Ev.call (gV (g_law_number _) (kind_of hS rfl)) (EvA.args (EvL.cons (Ev.loc rfl) EvL.nil)) (by exact hn.le (by decide)) (kp_law_number _)) (il hS rfl) rfl)
 (Ex.cons (Es.compS hS (SrcE.of (Ev.tup (EvL.cons (Ev.call (gV (g_ISEOF _) (kind_of hS rfl)) (EvA.args (EvL.cons (Ev.loc rfl) EvL.nil)) (by exact h1.le (by decide)) (kp_ISEOF _)) (EvL.cons (Ev.call (gV (g_ISNONTERMINAL _) (kind_of hS rfl)) (EvA.args (EvL.cons (Ev.loc rfl) EvL.nil)) (by exact h2.le (by decide)) (kp_ISNONTERMINAL _)) (EvL.cons (Ev.call (gV (g_ISTERMINAL _) (kind_of hS rfl)) (EvA.args (EvL.cons (Ev.loc rfl) EvL.nil)) (by exact h3.le (by decide)) (kp_ISTERMINAL _)) EvL.nil)))) Src.tup) rfl (fun q_ => trivial) (by kernel_rfl) (fun cenv hC1 => (Co.cons (fun K => (Ast.name (.inl ⟨kind_of hC1 rfl, rfl⟩))) (fun K => TstL.nil) (fun K => (Ev.ife (Tst.cmp (Ev.loc rfl) Ev.bool Cmp.isB) (Or.inl ⟨by (first | with_reducible assumption | rfl | decide | omega | (simp; done) | (simp; omega)), Ev.int⟩))) (by rfl) (sub_cons rfl) (Co.cons (fun K => (Ast.name (.inl ⟨kind_of hC1 rfl, rfl⟩))) (fun K => TstL.nil) (fun K => (Ev.ife (Tst.cmp (Ev.loc rfl) Ev.bool Cmp.isB) (Or.inr ⟨by (first | with_reducible assumption | rfl | decide | omega | (simp; done) | (simp; omega)), (Ev.ife (Tst.cmp (Ev.loc rfl) Ev.bool Cmp.isB) (Or.inl ⟨by (first | with_reducible assumption | rfl | decide | omega | (simp; done) | (simp; omega)), Ev.int⟩))⟩))) (by rfl) (sub_cons rfl) (Co.cons (fun K => (Ast.name (.inl ⟨kind_of hC1 rfl, rfl⟩))) (fun K => TstL.nil) (fun K => (Ev.ife (Tst.cmp (Ev.loc rfl) Ev.bool Cmp.isB) (Or.inl ⟨by (first | with_reducible assumption | rfl | decide | omega | (simp; done) | (simp; omega)), Ev.int⟩))) (by rfl) (sub_cons rfl) Co.nil)))) (Nat.le_of_ble_eq_true rfl) (fun q_ q_ => rfl) (Nat.le_refl _) (il hS rfl) (by intro _ _; (rename_i e he; cases e; dsimp only at he; subst he; rfl)))
 (Ex.stop (Es.ret (Ev.ife (Tst.cmp (Ev.loc rfl) (Ev.lst (EvL.cons Ev.int (EvL.cons Ev.int (EvL.cons Ev.int EvL.nil)))) (Cmp.eqL (d := 3) Lsy.lst Lsy.lst (by (repeat' first | exact EqVs.nil | exact EqV.int _ _ | exact EqV.str _ _ | exact EqV.fltInt _ _ | exact EqV.intFlt _ _ | apply EqVs.cons | apply EqV.tup)) (by decide))) (Or.inl ⟨by (first | with_reducible assumption | rfl | decide | omega | (simp; done) | (simp; omega)), Ev.str⟩))) (by intro _ _ h; cases h))))
 case hfin => first | exact Fin.ret | exact Fin.next
set_option tactic.hygienic true in
theorem kind_phrase (c : C1) (H : List HObj) {x : Str} {s : Int} (hn : Fn c.ct 3 (.val (.ref 265)) [.str x] [] H H (.int s)) (h1 : Fn c.ct 3 (.val (.ref 110)) [.int s] [] H H (.bool false)) (h2 : Fn c.ct 3 (.val (.ref 103)) [.int s] [] H H (.bool true)) (h3 : Fn c.ct 3 (.val (.ref 96)) [.int s] [] H H (.bool false)) :
  Fn c.ct 5 (.val (.ref 270)) [.str x] [] H H (.str "phrase") := by
 refine' fnOf (ns := ["name"]) (vs := [.str x]) (o := .ret (.str "phrase") H) ?ho ?hb ?hst ?hcd ?hns ?hnd ?hbind ?hbody ?hfin
 walk_at "t_of"
 case hbind => exact bind1 fun q_ => Looks.of_pure rfl
 case hbody =>
  intro env hS; dsimp only at hS
  exact (Ex.cons (Es.assign (Ev.call (gV (g_law_number _) (kind_of hS rfl)) (EvA.args (EvL.cons (Ev.loc rfl) EvL.nil)) (by exact hn.le (by decide)) (kp_law_number _)) (il hS rfl) rfl)
 (Ex.cons (Es.compS hS (SrcE.of (Ev.tup (EvL.cons (Ev.call (gV (g_ISEOF _) (kind_of hS rfl)) (EvA.args (EvL.cons (Ev.loc rfl) EvL.nil)) (by exact h1.le (by decide)) (kp_ISEOF _)) (EvL.cons (Ev.call (gV (g_ISNONTERMINAL _) (kind_of hS rfl)) (EvA.args (EvL.cons (Ev.loc rfl) EvL.nil)) (by exact h2.le (by decide)) (kp_ISNONTERMINAL _)) (EvL.cons (Ev.call (gV (g_ISTERMINAL _) (kind_of hS rfl)) (EvA.args (EvL.cons (Ev.loc rfl) EvL.nil)) (by exact h3.le (by decide)) (kp_ISTERMINAL _)) EvL.nil)))) Src.tup) rfl (fun q_ => trivial) (by kernel_rfl) (fun cenv hC1 => (Co.cons (fun K => (Ast.name (.inl ⟨kind_of hC1 rfl, rfl⟩))) (fun K => TstL.nil) (fun K => (Ev.ife (Tst.cmp (Ev.loc rfl) Ev.bool Cmp.isB) (Or.inr ⟨by (first | with_reducible assumption | rfl | decide | omega | (simp; done) | (simp; omega)), (Ev.ife (Tst.cmp (Ev.loc rfl) Ev.bool Cmp.isB) (Or.inl ⟨by (first | with_reducible assumption | rfl | decide | omega | (simp; done) | (simp; omega)), Ev.int⟩))⟩))) (by rfl) (sub_cons rfl) (Co.cons (fun K => (Ast.name (.inl ⟨kind_of hC1 rfl, rfl⟩))) (fun K => TstL.nil) (fun K => (Ev.ife (Tst.cmp (Ev.loc rfl) Ev.bool Cmp.isB) (Or.inl ⟨by (first | with_reducible assumption | rfl | decide | omega | (simp; done) | (simp; omega)), Ev.int⟩))) (by rfl) (sub_cons rfl) (Co.cons (fun K => (Ast.name (.inl ⟨kind_of hC1 rfl, rfl⟩))) (fun K => TstL.nil) (fun K => (Ev.ife (Tst.cmp (Ev.loc rfl) Ev.bool Cmp.isB) (Or.inr ⟨by (first | with_reducible assumption | rfl | decide | omega | (simp; done) | (simp; omega)), (Ev.ife (Tst.cmp (Ev.loc rfl) Ev.bool Cmp.isB) (Or.inl ⟨by (first | with_reducible assumption | rfl | decide | omega | (simp; done) | (simp; omega)), Ev.int⟩))⟩))) (by rfl) (sub_cons rfl) Co.nil)))) (Nat.le_of_ble_eq_true rfl) (fun q_ q_ => rfl) (Nat.le_refl _) (il hS rfl) (by intro _ _; (rename_i e he; cases e; dsimp only at he; subst he; rfl)))
 (Ex.stop (Es.ret (Ev.ife (Tst.cmp (Ev.loc rfl) (Ev.lst (EvL.cons Ev.int (EvL.cons Ev.int (EvL.cons Ev.int EvL.nil)))) (Cmp.eqL (d := 3) Lsy.lst Lsy.lst (by (repeat' first | exact EqVs.nil | exact EqV.int _ _ | exact EqV.str _ _ | exact EqV.fltInt _ _ | exact EqV.intFlt _ _ | apply EqVs.cons | apply EqV.tup)) (by decide))) (Or.inr ⟨by (first | with_reducible assumption | rfl | decide | omega | (simp; done) | (simp; omega)), (Ev.ife (Tst.cmp (Ev.loc rfl) (Ev.lst (EvL.cons Ev.int (EvL.cons Ev.int (EvL.cons Ev.int EvL.nil)))) (Cmp.eqL (d := 3) Lsy.lst Lsy.lst (by (repeat' first | exact EqVs.nil | exact EqV.int _ _ | exact EqV.str _ _ | exact EqV.fltInt _ _ | exact EqV.intFlt _ _ | apply EqVs.cons | apply EqV.tup)) (by decide))) (Or.inl ⟨by (first | with_reducible assumption | rfl | decide | omega | (simp; done) | (simp; omega)), Ev.str⟩))⟩))) (by intro _ _ h; cases h))))
 case hfin => first | exact Fin.ret | exact Fin.next
set_option tactic.hygienic true in
theorem kind_operator (c : C1) (H : List HObj) {x : Str} {s : Int} (hn : Fn c.ct 3 (.val (.ref 265)) [.str x] [] H H (.int s)) (h1 : Fn c.ct 3 (.val (.ref 110)) [.int s] [] H H (.bool false)) (h2 : Fn c.ct 3 (.val (.ref 103)) [.int s] [] H H (.bool false)) (h3 : Fn c.ct 3 (.val (.ref 96)) [.int s] [] H H (.bool true)) :
  Fn c.ct 5 (.val (.ref 270)) [.str x] [] H H (.str "operator") := by
 refine' fnOf (ns := ["name"]) (vs := [.str x]) (o := .ret (.str "operator") H) ?ho ?hb ?hst ?hcd ?hns ?hnd ?hbind ?hbody ?hfin
 walk_at "t_of"
 case hbind => exact bind1 fun q_ => Looks.of_pure rfl
 case hbody =>
  intro env hS; dsimp only at hS
  exact (Ex.cons (Es.assign (Ev.call (gV (g_law_number _) (kind_of hS rfl)) (EvA.args (EvL.cons (Ev.loc rfl) EvL.nil)) (by exact hn.le (by decide)) (kp_law_number _)) (il hS rfl) rfl)
 (Ex.cons (Es.compS hS (SrcE.of (Ev.tup (EvL.cons (Ev.call (gV (g_ISEOF _) (kind_of hS rfl)) (EvA.args (EvL.cons (Ev.loc rfl) EvL.nil)) (by exact h1.le (by decide)) (kp_ISEOF _)) (EvL.cons (Ev.call (gV (g_ISNONTERMINAL _) (kind_of hS rfl)) (EvA.args (EvL.cons (Ev.loc rfl) EvL.nil)) (by exact h2.le (by decide)) (kp_ISNONTERMINAL _)) (EvL.cons (Ev.call (gV (g_ISTERMINAL _) (kind_of hS rfl)) (EvA.args (EvL.cons (Ev.loc rfl) EvL.nil)) (by exact h3.le (by decide)) (kp_ISTERMINAL _)) EvL.nil)))) Src.tup) rfl (fun q_ => trivial) (by kernel_rfl) (fun cenv hC1 => (Co.cons (fun K => (Ast.name (.inl ⟨kind_of hC1 rfl, rfl⟩))) (fun K => TstL.nil) (fun K => (Ev.ife (Tst.cmp (Ev.loc rfl) Ev.bool Cmp.isB) (Or.inr ⟨by (first | with_reducible assumption | rfl | decide | omega | (simp; done) | (simp; omega)), (Ev.ife (Tst.cmp (Ev.loc rfl) Ev.bool Cmp.isB) (Or.inl ⟨by (first | with_reducible assumption | rfl | decide | omega | (simp; done) | (simp; omega)), Ev.int⟩))⟩))) (by rfl) (sub_cons rfl) (Co.cons (fun K => (Ast.name (.inl ⟨kind_of hC1 rfl, rfl⟩))) (fun K => TstL.nil) (fun K => (Ev.ife (Tst.cmp (Ev.loc rfl) Ev.bool Cmp.isB) (Or.inr ⟨by (first | with_reducible assumption | rfl | decide | omega | (simp; done) | (simp; omega)), (Ev.ife (Tst.cmp (Ev.loc rfl) Ev.bool Cmp.isB) (Or.inl ⟨by (first | with_reducible assumption | rfl | decide | omega | (simp; done) | (simp; omega)), Ev.int⟩))⟩))) (by rfl) (sub_cons rfl) (Co.cons (fun K => (Ast.name (.inl ⟨kind_of hC1 rfl, rfl⟩))) (fun K => TstL.nil) (fun K => (Ev.ife (Tst.cmp (Ev.loc rfl) Ev.bool Cmp.isB) (Or.inl ⟨by (first | with_reducible assumption | rfl | decide | omega | (simp; done) | (simp; omega)), Ev.int⟩))) (by rfl) (sub_cons rfl) Co.nil)))) (Nat.le_of_ble_eq_true rfl) (fun q_ q_ => rfl) (Nat.le_refl _) (il hS rfl) (by intro _ _; (rename_i e he; cases e; dsimp only at he; subst he; rfl)))
 (Ex.stop (Es.ret (Ev.ife (Tst.cmp (Ev.loc rfl) (Ev.lst (EvL.cons Ev.int (EvL.cons Ev.int (EvL.cons Ev.int EvL.nil)))) (Cmp.eqL (d := 3) Lsy.lst Lsy.lst (by (repeat' first | exact EqVs.nil | exact EqV.int _ _ | exact EqV.str _ _ | exact EqV.fltInt _ _ | exact EqV.intFlt _ _ | apply EqVs.cons | apply EqV.tup)) (by decide))) (Or.inr ⟨by (first | with_reducible assumption | rfl | decide | omega | (simp; done) | (simp; omega)), (Ev.ife (Tst.cmp (Ev.loc rfl) (Ev.lst (EvL.cons Ev.int (EvL.cons Ev.int (EvL.cons Ev.int EvL.nil)))) (Cmp.eqL (d := 3) Lsy.lst Lsy.lst (by (repeat' first | exact EqVs.nil | exact EqV.int _ _ | exact EqV.str _ _ | exact EqV.fltInt _ _ | exact EqV.intFlt _ _ | apply EqVs.cons | apply EqV.tup)) (by decide))) (Or.inr ⟨by (first | with_reducible assumption | rfl | decide | omega | (simp; done) | (simp; omega)), (Ev.ife (Tst.cmp (Ev.loc rfl) (Ev.lst (EvL.cons Ev.int (EvL.cons Ev.int (EvL.cons Ev.int EvL.nil)))) (Cmp.eqL (d := 3) Lsy.lst Lsy.lst (by (repeat' first | exact EqVs.nil | exact EqV.int _ _ | exact EqV.str _ _ | exact EqV.fltInt _ _ | exact EqV.intFlt _ _ | apply EqVs.cons | apply EqV.tup)) (by decide))) (Or.inl ⟨by (first | with_reducible assumption | rfl | decide | omega | (simp; done) | (simp; omega)), Ev.str⟩))⟩))⟩))) (by intro _ _ h; cases h))))
 case hfin => first | exact Fin.ret | exact Fin.next
theorem Fo.runsN {C : Ct} {n : Nat} {env : Env} {σ : Loc} {H : List HObj} {target : PySem.Expr} {body : List PySem.Stmt} {Ok : List HObj → Prop} {l : List V} (N : Nat) (hN : l.length = N) (S : Nat → Loc) (G : Nat → List HObj) (hS : ∀ x u, (S 0).lookup x = some u → σ.lookup x = some u) (hG : G 0 = H) (hok : ∀ i, i ≤ l.length → Ok (G i))
  (turn : ∀ i v, l[i]? = some v → Turn C n env target body v (S i) (G i) (S (i + 1)) (G (i + 1))) : Fo C n env target body Ok l σ H (.next (S N) (G N)) := hN ▸ Fo.runs S G hS hG hok turn
theorem le_size {k : Nat} (h : k ≤ 16777216) : k ≤ sizeLine := h
theorem sw_of {env : Env} {S : Scope} {ts : List PySem.Expr} {e : PySem.Expr} {l : Nat} {b : Bool} (hS : env.scope = S) (h : ∀ env' : Env, env'.scope = S → swapsWithSole ts e l env' = pure b) : swapsWithSole ts e l env = pure b := h env hS
theorem ss_of {env : Env} {S : Scope} {ts : List PySem.Expr} {e : PySem.Expr} {r : Option (List Str)} (hS : env.scope = S) (h : ∀ env' : Env, env'.scope = S → swappedStores ts e env' = pure r) : swappedStores ts e env = pure r := h env hS
theorem in_of {env : Env} {S : Scope} (hS : env.scope = S) (h : ∀ env' : Env, env'.scope = S → interactive env' = false) : interactive env = false := h env hS
theorem stos_nil {env : Env} : ∀ x ∈ ([] : List Str), Sto env x := fun q_ h => nomatch h
theorem stos_cons {env : Env} {y : Str} {l : List Str} (h : Sto env y) (t : ∀ x ∈ l, Sto env x) : ∀ x ∈ y :: l, Sto env x := fun x m => by
 rcases List.mem_cons.mp m with rfl | m
 ·exact h
 ·exact t x m
noncomputable def facs : List Int := [1, 1, 2, 6, 24, 120]
noncomputable def shareN (ns : List Int) : Nat → Int
 | 0 => 1
 | i + 1 => shareN ns i * facs.getD (ns.count (i : Int)) 0
noncomputable def share (ns : List Int) : Int := shareN ns 5
theorem rng_at {a b : Int} {i : Nat} {v : V} (h : (rngL a b)[i]? = some v) : i < (b - a).toNat ∧ v = .int (a + i) := by
 unfold rngL at h
 rw [List.getElem?_map] at h
 cases q : (List.range (b - a).toNat)[i]? with
 | none => rw [q] at h; cases h
 | some k =>
  rw [q] at h
  have hi : i < (b - a).toNat := by
   have := (List.getElem?_eq_some_iff.mp q).1
   simpa using this
  rw [List.getElem?_range hi] at q
  cases q
  exact ⟨hi, (Option.some.inj h).symm⟩
theorem rngL_len {a b : Int} : (rngL a b).length = (b - a).toNat := by simp [rngL]
theorem itm_facs {C : Ct} {n : Nat} {e : PySem.Expr} {H : List HObj} {k : Nat} (hk : k ≤ 5) (hp : Plain1 e) : Itm C n e (.tup [.int 1, .int 1, .int 2, .int 6, .int 24, .int 120]) (.int (k : Int)) H (.int (facs.getD k 0)) := by
 have h := below6 (Nat.lt_succ_of_le hk)
 rcases h with rfl | rfl | rfl | rfl | rfl | rfl
 ·exact Itm.tup (j := 0) (by decide) (by decide) rfl rfl hp
 ·exact Itm.tup (j := 1) (by decide) (by decide) rfl rfl hp
 ·exact Itm.tup (j := 2) (by decide) (by decide) rfl rfl hp
 ·exact Itm.tup (j := 3) (by decide) (by decide) rfl rfl hp
 ·exact Itm.tup (j := 4) (by decide) (by decide) rfl rfl hp
 ·exact Itm.tup (j := 5) (by decide) (by decide) rfl rfl hp
theorem facs_small {k : Nat} (h : k ≤ 5) : 1 ≤ facs.getD k 0 ∧ facs.getD k 0 ≤ 120 := by
 exact (by decide : ∀ k, k < 6 → 1 ≤ facs.getD k 0 ∧ facs.getD k 0 ≤ 120) k (Nat.lt_succ_of_le h)
theorem shareN_pos (ns : List Int) (h : ns.length ≤ 5) (i : Nat) : 1 ≤ shareN ns i ∧ shareN ns i ≤ 120 ^ i := by
 induction i with
 | zero => exact ⟨Int.le_refl 1, Int.le_refl 1⟩
 | succ i ih =>
  have hf := facs_small (Nat.le_trans (List.count_le_length (a := (i : Int))) h)
  have h0 : (0 : Int) ≤ shareN ns i := Int.le_trans (by decide) ih.1
  unfold shareN
  rw [Int.pow_succ]
  exact ⟨Int.le_trans (by decide) (Int.mul_le_mul ih.1 hf.1 (by decide) h0), Int.mul_le_mul ih.2 hf.2 (Int.le_trans (by decide) hf.1) (Int.le_trans h0 ih.2)⟩
set_option tactic.hygienic true in
theorem mulOk {a b : Int} (h : a.natAbs < 2 ^ 64) : IntMulOk a b := by
 refine IntMulOk.of_left ?_
 unfold Builtin.Int.intBits
 split
 ·exact Nat.zero_le _
 ·rename_i q
  have q' : a.natAbs ≠ 0 := by intro z; apply q; simp; lia
  have : a.natAbs.log2 < 64 := (Nat.log2_lt q').mpr h
  assumption
noncomputable def Subs (σ' σ1 : Loc) : Prop := ∀ x u, σ'.lookup x = some u → σ1.lookup x = some u
theorem subs_nil {σ1 : Loc} : Subs [] σ1 := fun q_ q_ h => by simp at h
set_option tactic.hygienic true in
theorem subs_cons {σ' σ1 : Loc} {y : Str} {v : V} (h : σ1.lookup y = some v) (t : Subs σ' σ1) : Subs ((y, v) :: σ') σ1 := fun x u e => by
 simp only [List.lookup] at e
 split at e
 ·rename_i q; cases e; rw [beq_iff_eq.mp q]; exact h
 ·exact t x u e
theorem pow_mono {a : Int} (h : 1 ≤ a) {i j : Nat} (hij : i ≤ j) : a ^ i ≤ a ^ j := by
 induction hij with
 | refl => exact Int.le_refl _
 | @step m _ ih =>
  rw [Int.pow_succ]
  have h1 : 0 ≤ a ^ m := Int.pow_nonneg (by exact Int.le_of_lt (by assumption))
  have : a ^ m * 1 ≤ a ^ m * a := Int.mul_le_mul_of_nonneg_left h h1
  lia
noncomputable def sumShares (ns : List Int) (k : Nat) : Int := ((List.range (ns.getD k 0).toNat).map fun (less : Nat) => share (ns.take k ++ [(less : Int)])).sum
noncomputable def startN (ns : List Int) : Nat → Int
 | 0 => 0
 | k + 1 => startN ns k * (5 + (k : Int)) + sumShares ns k
noncomputable def wholeN : Nat → Int
 | 0 => 1
 | k + 1 => wholeN k * (5 + (k : Int))
theorem intv_at {ns : List Int} {i : Nat} {z : V} (h : (ns.map V.int)[i]? = some z) : i < ns.length ∧ z = .int (ns.getD i 0) := by
 rw [List.getElem?_map] at h
 cases q : ns[i]? with
 | none => rw [q] at h; cases h
 | some k =>
  rw [q] at h
  exact ⟨(List.getElem?_eq_some_iff.mp q).1, by rw [List.getD, q]; exact (Option.some.inj h).symm⟩
theorem fn_share (c : C1) (H : List HObj) {u : V} {ns : List Int} (hl : Lsy H u (ns.map .int)) (hn : ns.length ≤ 5) : Fn c.ct 4 (.val (.ref 277)) [u] [] H H (.int (share ns)) := by
 have hc : ∀ a : Int, ns.count a ≤ 5 := fun a => Nat.le_trans List.count_le_length hn
 have hm : ∀ i, i ≤ 5 → (shareN ns i).natAbs < 2 ^ 64 := fun i hi => by
  obtain ⟨h1, h2⟩ := shareN_pos ns hn i
  have : (120 : Int) ^ i ≤ 120 ^ 5 := pow_mono (by decide) hi
  omega
 refine' fnOf (ns := [Str.ofString "ranks"]) (vs := [u]) (o := .ret (.int (share ns)) H) ?ho ?hb ?hst ?hcd ?hns ?hnd ?hbind ?hbody ?hfin
 walk_at "t_of"
 case hbind => exact bind1 fun q_ => Looks.of_pure rfl
 case hbody =>
  intro env hS; dsimp only at hS
  exact (Ex.cons (Es.assign Ev.int (il hS rfl) rfl)
 (Ex.cons (Es.for (SrcE.of (Ev.call (gB (g_range _) (kind_of hS rfl)) (EvA.args (EvL.cons Ev.int EvL.nil)) (by exact Fn.range1) Kp.typ) (by first | exact Src.tup | exact Src.lst (by (first | exact Lsy.lst | with_reducible assumption | (refine' Lsy.ref ?k1; (case k1 => first | with_reducible assumption | rfl)))) | exact Src.rng (by (first | with_reducible assumption | rfl | decide | omega | (simp; done) | (simp; omega))) (by (first | with_reducible assumption | rfl | decide | omega | (simp; done) | (simp; omega))) (by (first | with_reducible assumption | rfl | decide | omega | (simp; done) | (simp; omega))) (by (first | with_reducible assumption | rfl | decide | omega | (simp; done) | (simp; omega))))) rfl (Fo.runs (fun i => [(Str.ofString "share", .int (shareN ns i)), (Str.ofString "ranks", u)]) (fun q_ => H) (fun q_ q_ h => h) rfl (fun q_ q_ => trivial) (fun i v hv => by
   obtain ⟨hi, rfl⟩ := rng_at hv
   rw [Int.zero_add]
   exact Turn.mk (Ast.name (.inr ⟨(il hS rfl), rfl⟩)) (Ex.one (Es.assign (Ev.bin (Ev.loc rfl) (Ev.sub (Ev.tup (EvL.cons Ev.int (EvL.cons Ev.int (EvL.cons Ev.int (EvL.cons Ev.int (EvL.cons Ev.int (EvL.cons Ev.int EvL.nil))))))) (Ev.meth (Ev.loc rfl) (EvL.cons (Ev.loc rfl) EvL.nil) (by exact Mth.count (by (first | exact Lsy.lst | with_reducible assumption | (refine' Lsy.ref ?k1; (case k1 => first | with_reducible assumption | rfl))))) (Typ.lst (by (first | exact Lsy.lst | with_reducible assumption | (refine' Lsy.ref ?k1; (case k1 => first | with_reducible assumption | rfl))))) rfl rfl rfl rfl (fun q_ q_ q_ q_ q_ h => Calls.evalArgs_plain h)) (itm_facs (hc _) (fun q_ q_ => rfl))) (Bin.mul (mulOk (hm i (by exact Nat.le_of_lt (by assumption)))))) (il hS rfl) rfl)) (subs_cons rfl (subs_cons rfl subs_nil)))) (fun q_ q_ => rfl))
 (Ex.stop (Es.ret (Ev.loc rfl)) (by intro _ _ h; cases h))))
 case hfin => first | exact Fin.ret | exact Fin.next
theorem Lsy.app {H K : List HObj} {u : V} {l : List V} (h : Lsy H u l) : Lsy (H ++ K) u l := by
 cases h with
 | lst => exact .lst
 | ref h => exact .ref (getElem?_append_some h)
theorem lsy_take {H : List HObj} {ns : List Int} {i : Nat} {j : Int} : Lsy H (.lst (pick (ns.map V.int) none (some (i : Int)) none ++ [V.int j])) ((ns.take i ++ [j]).map V.int) := by
 rw [pick_upto, List.map_append, List.map_take]; exact Lsy.lst
theorem share_bound {ns : List Int} (h : ns.length ≤ 5) : 1 ≤ share ns ∧ share ns ≤ 24883200000 := by
 have := shareN_pos ns h 5
 unfold share; assumption
theorem sum_bound {f : Nat → Int} {B : Int} (hf : ∀ j, 0 ≤ f j ∧ f j ≤ B) : ∀ m : Nat, 0 ≤ ((List.range m).map f).sum ∧ ((List.range m).map f).sum ≤ m * B
 | 0 => by simp
 | m + 1 => by
  have h1 := sum_bound hf m
  have h2 := hf m
  rw [List.range_succ, List.map_append, List.sum_append]
  simp only [List.map_cons, List.map_nil, List.sum_cons, List.sum_nil]
  have : ((m + 1 : Nat) : Int) * B = m * B + B := by rw [Int.natCast_add, Int.add_mul]; simp
  omega
theorem sumShares_bound {ns : List Int} {k : Nat} (h : k < 5) (hr : 0 ≤ ns.getD k 0 ∧ ns.getD k 0 < 5) : 0 ≤ sumShares ns k ∧ sumShares ns k ≤ 99532800000 := by
 have := sum_bound (f := fun less => share (ns.take k ++ [(less : Int)])) (B := 24883200000) (fun j => by
  have := share_bound (ns := ns.take k ++ [(j : Int)]) (by simp; lia)
  lia) (ns.getD k 0).toNat
 unfold sumShares
 lia
theorem startN_bound {ns : List Int} (hr : ∀ k, 0 ≤ ns.getD k 0 ∧ ns.getD k 0 < 5) : ∀ k, k ≤ 5 → 0 ≤ startN ns k ∧ startN ns k ≤ 99532800000 * (10 ^ k - 1)
 | 0, _ => by simp [startN]
 | k + 1, h => by
  have h1 := startN_bound hr k (by exact Nat.le_of_lt (by assumption))
  have h2 := sumShares_bound (ns := ns) (k := k) (by assumption) (hr k)
  unfold startN
  have h3 : startN ns k * (5 + (k : Int)) ≤ startN ns k * 9 := Int.mul_le_mul_of_nonneg_left (by lia) h1.1
  have h4 : 0 ≤ startN ns k * (5 + (k : Int)) := Int.mul_nonneg h1.1 (by exact Int.ofNat_nonneg _)
  have h5 : (1 : Int) ≤ 10 ^ k := by
   have := pow_mono (a := 10) (by decide) (Nat.zero_le k)
   simpa using this
  rw [Int.pow_succ]
  lia
theorem wholeN_bound : ∀ k, k ≤ 5 → 1 ≤ wholeN k ∧ wholeN k ≤ 9 ^ k
 | 0, _ => by simp [wholeN]
 | k + 1, h => by
  have h1 := wholeN_bound k (by lia)
  unfold wholeN
  have h3 : wholeN k * (5 + (k : Int)) ≤ wholeN k * 9 := Int.mul_le_mul_of_nonneg_left (by lia) (by lia)
  have h4 : wholeN k * 1 ≤ wholeN k * (5 + (k : Int)) := Int.mul_le_mul_of_nonneg_left (by lia) (by lia)
  have h5 : wholeN k * 9 ≤ 9 ^ k * 9 := Int.mul_le_mul_of_nonneg_right h1.2 (by decide)
  rw [Int.pow_succ]
  lia
theorem start_small {ns : List Int} (hr : ∀ k, 0 ≤ ns.getD k 0 ∧ ns.getD k 0 < 5) {k : Nat} (h : k ≤ 5) : 0 ≤ startN ns k ∧ startN ns k ≤ 9953280000000000 := by
 have h1 := startN_bound hr k h
 have : (10 : Int) ^ k ≤ 10 ^ 5 := pow_mono (by decide) h
 lia
theorem whole_small {k : Nat} (h : k ≤ 5) : 1 ≤ wholeN k ∧ wholeN k ≤ 59049 := by
 have h1 := wholeN_bound k h
 have : (9 : Int) ^ k ≤ 9 ^ 5 := pow_mono (by decide) h
 lia
theorem start_abs {ns : List Int} (hr : ∀ k, 0 ≤ ns.getD k 0 ∧ ns.getD k 0 < 5) {k : Nat} (h : k ≤ 5) : (startN ns k).natAbs < 2 ^ 64 := by
 have := start_small hr h
 lia
theorem whole_abs {k : Nat} (h : k ≤ 5) : (wholeN k).natAbs < 2 ^ 64 := by
 have := whole_small h
 omega
theorem sum_prefix {f : Nat → Int} {B : Int} (hf : ∀ j, 0 ≤ f j ∧ f j ≤ B) (m k : Nat) : 0 ≤ (((List.range m).map f).take k).sum ∧ (((List.range m).map f).take k).sum ≤ m * B := by
 have hB : 0 ≤ B := by have := hf 0; lia
 rw [← List.map_take, List.take_range]
 have h := sum_bound hf (min k m)
 have : ((min k m : Nat) : Int) * B ≤ m * B := Int.mul_le_mul_of_nonneg_right (by lia) hB
 omega
theorem fn_sumShares {C : Ct} {n : Nat} {H : List HObj} {ns : List Int} {i : Nat} (h : i < 5) (hr : 0 ≤ ns.getD i 0 ∧ ns.getD i 0 < 5) : Fn C n (.val (.builtin "sum")) [.lst ((List.range (ns.getD i 0).toNat).map fun (j : Nat) => V.int (share (ns.take i ++ [(j : Int)])))] [] H H (.int (sumShares ns i)) := by
 have hf : ∀ j : Nat, 0 ≤ share (ns.take i ++ [(j : Int)]) ∧ share (ns.take i ++ [(j : Int)]) ≤ 24883200000 := fun j => by
  have := share_bound (ns := ns.take i ++ [(j : Int)]) (by simp; lia)
  lia
 refine Fn.sum (ns := (List.range (ns.getD i 0).toNat).map fun (j : Nat) => share (ns.take i ++ [(j : Int)])) (by rw [List.map_map]; exact Lsy.lst) (fun k => ?_) (fun x hx => ?_)
 ·have := sum_prefix hf (ns.getD i 0).toNat k
  lia
 ·obtain ⟨j, _, rfl⟩ := List.mem_map.mp hx
  have := hf j
  omega
theorem fn_arc (c : C1) (H : List HObj) {u : V} {ns : List Int} (hl : Lsy H u (ns.map .int)) (hn : ns.length ≤ 5) (hr : ∀ k, 0 ≤ ns.getD k 0 ∧ ns.getD k 0 < 5) : Fn c.ct 8 (.val (.ref 282)) [u] [] H H (.tup [.int (startN ns ns.length), .int (startN ns ns.length + share ns), .int (wholeN ns.length)]) := by
 refine' fnOf (ns := [Str.ofString "ranks"]) (vs := [u]) (o := .ret (.tup [.int (startN ns ns.length), .int (startN ns ns.length + share ns), .int (wholeN ns.length)]) H) ?ho ?hb ?hst ?hcd ?hns ?hnd ?hbind ?hbody ?hfin
 walk_at "t_of"
 case hbind => exact bind1 fun q_ => Looks.of_pure rfl
 case hbody =>
  intro env hS; dsimp only at hS
  exact (Ex.cons (Es.assignT (Ev.tup (EvL.cons Ev.int (EvL.cons Ev.int EvL.nil))) (AsL.cons (Ast.name (.inr ⟨(il hS rfl), rfl⟩)) (AsL.cons (Ast.name (.inr ⟨(il hS rfl), rfl⟩)) AsL.nil)) (sw_of hS (by intro e he; cases e; dsimp only at he; subst he; rfl)) (ss_of hS (by intro e he; cases e; dsimp only at he; subst he; rfl)))
 (Ex.cons (Es.for (SrcE.call (gB (g_enumerate _) (kind_of hS rfl)) (EvA.args (EvL.cons (Ev.loc rfl) EvL.nil)) (FnI.enum (by with_reducible assumption)) Kp.typ (fun q_ => rfl)) rfl (Fo.runsN ns.length (by rw [enumV_len, List.length_map]) (fun i => [(Str.ofString "start", .int (startN ns i)), (Str.ofString "whole", .int (wholeN i)), (Str.ofString "ranks", u)]) (fun q_ => H) (subs_cons rfl (subs_cons rfl (subs_cons rfl subs_nil))) rfl (fun q_ q_ => hl) (fun i v hv => by
   obtain ⟨z, hz, rfl⟩ := enumV_at hv
   obtain ⟨hi, rfl⟩ := intv_at hz
   exact Turn.mk (Ast.tup (AsL.cons (Ast.name (.inr ⟨(.inr (kind_of hS rfl)), rfl⟩)) (AsL.cons (Ast.name (.inr ⟨(il hS rfl), rfl⟩)) AsL.nil)) fw_nonSeq) (Ex.cons (Es.assign (Ev.bin (Ev.bin (Ev.loc rfl) (Ev.bin Ev.int (Ev.loc rfl) Bin.addInt) (Bin.mul (mulOk (start_abs hr (k := i) (by lia))))) (Ev.call (gB (g_sum _) (kind_of hS rfl)) (EvA.args (EvL.cons (Ev.compS hS (SrcE.of (Ev.call (gB (g_range _) (kind_of hS rfl)) (EvA.args (EvL.cons (Ev.loc rfl) EvL.nil)) (by exact Fn.range1) Kp.typ) (Src.rng (by decide) (by decide) (by have := hr i; lia) (by have := hr i; lia))) rfl (fun q_ => trivial) (by kernel_rfl) (fun cenv hC1 => (by rw [show rngL 0 (ns.getD i 0) = (List.range (ns.getD i 0).toNat).map (fun (j : Nat) => V.int (j : Int)) by simp [rngL]]; exact Co.map (g := fun (j : Nat) => V.int (share (ns.take i ++ [(j : Int)]))) (fun j hj => ⟨_, (fun K => (Ast.name (.inl ⟨kind_of hC1 rfl, rfl⟩))), (fun K => (Ev.call (gV (g_law_share _) (kind_of hC1 rfl)) (EvA.args (EvL.cons (Ev.bin (Ev.sliceL (Ev.loc rfl) EvP.none (EvP.some (Ev.loc rfl)) EvP.none (hl.app) (by decide) (by apply le_size; simp; lia) (fun q_ q_ => ⟨_, rfl⟩)) (Ev.lst (EvL.cons (Ev.loc rfl) EvL.nil)) (Bin.addL Lsy.lst Lsy.lst (by rw [pick_upto]; apply le_size; simp; lia))) EvL.nil)) (by exact (fn_share c _ lsy_take (by simp; lia)).le (by decide)) (kp_law_share _))), rfl, (sub_cons rfl)⟩))) (by apply le_size; rw [rngL_len]; have := hr i; lia) (fun q_ q_ => rfl) (Nat.le_refl _)) EvL.nil)) (by exact fn_sumShares (by exact Nat.lt_of_lt_of_le (by assumption) (by assumption)) (hr i)) Kp.blt) Bin.addInt) (il hS rfl) rfl)
 (Ex.one (Es.assign (Ev.bin (Ev.loc rfl) (Ev.bin Ev.int (Ev.loc rfl) Bin.addInt) (Bin.mul (mulOk (whole_abs (k := i) (by lia))))) (il hS rfl) rfl))) (subs_cons rfl (subs_cons rfl (subs_cons rfl subs_nil))))) (fun q_ q_ => rfl))
 (Ex.stop (Es.ret (Ev.tup (EvL.cons (Ev.loc rfl) (EvL.cons (Ev.bin (Ev.loc rfl) (Ev.call (gV (g_law_share _) (kind_of hS rfl)) (EvA.args (EvL.cons (Ev.loc rfl) EvL.nil)) (by exact (fn_share c H hl hn).le (by decide)) (kp_law_share _)) Bin.addInt) (EvL.cons (Ev.loc rfl) EvL.nil))))) (by intro _ _ h; cases h))))
 case hfin => first | exact Fin.ret | exact Fin.next
section
noncomputable abbrev In1 (p : Int) : Prop := 0 ≤ p ∧ p ≤ 2 ^ 30
section
variable {C : Ct} {n : Nat} {env : Env} {σ : Loc} {H H' H1 : List HObj} {x y z : Str} {p q r : Int} {a b u v w : V} {pos pos' p1 p2 p3 : Pos} {e : PySem.Expr} {body rest : List PySem.Stmt} {k : Nat}
theorem Fits.of (h : 0 ≤ p) (k : p < 2 ^ 53) : Fits p := by lia
theorem In1.fits (h : In1 p) : Fits p := Fits.of h.1 (Int.lt_of_le_of_lt h.2 (by decide))
theorem In1.diff (h : In1 p) (k : In1 q) (l : q ≤ p) : In1 (p - q) := ⟨Int.sub_nonneg.mpr l, Int.le_trans (Int.sub_le_self p k.1) h.2⟩
theorem In1.sub (h : In1 p) (k : In1 q) : Fits (p - q) := by omega
theorem In1.add (h : In1 p) (k : In1 q) : Fits (p + q) := Fits.of (Int.add_nonneg h.1 k.1) (Int.lt_of_le_of_lt (Int.add_le_add h.2 k.2) (by decide))
theorem Bin.subU (h : In1 p) (k : In1 q) (ht : C.tp := by trivial) : Bin C n .Sub (.flt (fl p)) (.flt (fl q)) H H (.flt (fl (p - q))) := Bin.subF h.fits k.fits (h.sub k) ht
theorem Bin.mulU (h : In1 p) (k : In1 q) (m : In1 r) (e : p * q = r * 2 ^ 30) (ht : C.tp := by trivial) : Bin C n .Mult (.flt (fl p)) (.flt (fl q)) H H (.flt (fl r)) := Bin.mulF h.fits k.fits m.fits h.1 k.1 e ht
theorem Bin.divU (h : In1 p) (k : In1 q) (m : In1 r) (k0 : 0 < q) (e : p * 2 ^ 30 = r * q) (ht : C.tp := by trivial) : Bin C n .Div (.flt (fl p)) (.flt (fl q)) H H (.flt (fl r)) := Bin.divF h.fits k.fits m.fits k0 e ht
theorem Ev.b2 {op : Operator} (h1 : σ.lookup x = some a) (h2 : σ.lookup y = some b) (ho : Bin C n op a b H H v) (d : (plainN x && plainN y) = true := by decide) :
  Ev C n env σ H (.BinOp (.Name x p1) op (.Name y p2) pos) H v := Ev.bin (Ev.loc h1 (Bool.and_eq_true_iff.mp d).1) (Ev.loc h2 (Bool.and_eq_true_iff.mp d).2) ho
theorem Tst.eq2 (h1 : σ.lookup x = some (.flt (fl p))) (h2 : σ.lookup y = some (.flt (fl q))) (f1 : In1 p) (f2 : In1 q) (d : (plainN x && plainN y) = true := by decide) :
  Tst C n env σ H (.Compare (.Name x p1) [.Eq] [.Name y p2] pos) H (decide (p = q)) := Tst.cmp (Ev.loc h1 (Bool.and_eq_true_iff.mp d).1) (Ev.loc h2 (Bool.and_eq_true_iff.mp d).2) (Cmp.eqF f1.fits f2.fits) rfl
theorem EvL.loc3 (h1 : σ.lookup x = some u) (h2 : σ.lookup y = some v) (h3 : σ.lookup z = some w) (d : (plainN x && plainN y && plainN z) = true := by decide) :
  EvL C n env σ H pos [.Name x p1, .Name y p2, .Name z p3] H [u, v, w] := have d := Bool.and_eq_true_iff.mp d
  EvL.cons (Ev.loc h1 (Bool.and_eq_true_iff.mp d.1).1) (EvL.cons (Ev.loc h2 (Bool.and_eq_true_iff.mp d.1).2) (EvL.cons (Ev.loc h3 d.2) EvL.nil)) (fun q_ => rfl)
theorem EvA.loc3 (h1 : σ.lookup x = some u) (h2 : σ.lookup y = some v) (h3 : σ.lookup z = some w) (d : (plainN x && plainN y && plainN z) = true := by decide) :
  EvA C n env σ H pos [.Name x p1, .Name y p2, .Name z p3] [] H [u, v, w] [] := EvA.args (EvL.loc3 h1 h2 h3 d) (fun q_ => rfl)
theorem Ex.retV (h : Ev C n env σ H e H' v) : Ex C n env σ H (.Return (some e) pos :: rest) (.ret v H') := Ex.stop (Es.ret h) (fun q_ q_ h => nomatch h)
theorem Ex.ret3 (ho : a = .tup [u, v, w]) (h1 : σ.lookup x = some u) (h2 : σ.lookup y = some v) (h3 : σ.lookup z = some w) (d : (plainN x && plainN y && plainN z) = true := by decide) :
  Ex C n env σ H (.Return (some (.Tuple [.Name x p1, .Name y p2, .Name z p3] k pos)) pos' :: rest) (.ret a H) := ho ▸ Ex.retV (Ev.tup (EvL.loc3 h1 h2 h3 d))
theorem Ex.consA {σ1 : Loc} {st : PySem.Stmt} {o : Out} (x : Str) (v : V) (h1 : Es C n env σ H st (.next ((x, v) :: σ1) H1)) (h2 : Ex C n env ((x, v) :: σ1) H1 rest o) : Ex C n env σ H (st :: rest) o := Ex.cons h1 h2
theorem Ex.ifRet {b : Bool} (h : Tst C n env σ H e H1 b) (h1 : b = true → Ex C n env σ H1 body (.ret v H')) (h2 : b = false → Ex C n env σ H1 rest (.ret v H')) : Ex C n env σ H (.If e body [] pos :: rest) (.ret v H') := by
 cases b
 ·exact Ex.cons (Es.ifF h Ex.nil) (h2 rfl)
 ·exact Ex.stop (Es.ifT h (h1 rfl)) (fun q_ q_ h => nomatch h)
end
noncomputable def rgbOf (j W P Q T : Int) : Int × Int × Int := if j = 0 then (W, T, P) else if j = 1 then (Q, W, P) else if j = 2 then (P, W, T) else if j = 3 then (P, Q, W) else if j = 4 then (T, P, W) else (W, P, Q)
noncomputable def triV (t : Int × Int × Int) : V := .tup [.flt (fl t.1), .flt (fl t.2.1), .flt (fl t.2.2)]
theorem hsv_at {j k W P Q T : Int} (e : (j == k) = true) : triV (rgbOf j W P Q T) = triV (rgbOf k W P Q T) := by rw [eq_of_beq e]
theorem floor_fits {p : Int} (h : 0 ≤ p) (f : Fits p) : Fits (p / 2 ^ 30 * 2 ^ 30) := by lia
theorem six_no {j : Int} (h : j = 0 ∨ j = 1 ∨ j = 2 ∨ j = 3 ∨ j = 4 ∨ j = 5) (e0 : (j == 0) = false) (e1 : (j == 1) = false) (e2 : (j == 2) = false) (e3 : (j == 3) = false) (e4 : (j == 4) = false) (e5 : (j == 5) = false) : False := by
 rcases h with rfl | rfl | rfl | rfl | rfl | rfl
 ·cases e0
 ·cases e1
 ·cases e2
 ·cases e3
 ·cases e4
 ·cases e5
theorem hsv_grey (c : C1) (H : List HObj) {h W : Int} (bh : Fits h) (bW : Fits W) : Fn c.ct 3 (.val (.ref 86)) [.flt (fl h), .flt (fl 0), .flt (fl W)] [] H H (.tup [.flt (fl W), .flt (fl W), .flt (fl W)]) := by
 refine' fnOf (ns := ["h", "s", "v"]) (vs := [.flt (fl h), .flt (fl 0), .flt (fl W)]) (o := .ret (.tup [.flt (fl W), .flt (fl W), .flt (fl W)]) H) ?ho ?hb ?hst ?hcd ?hns ?hnd ?hbind ?hbody ?hfin
 walk_at "t_of"
 case hbind => exact bind3 fun q_ q_ q_ => Looks.of_pure rfl
 case hbody =>
  intro env hS; dsimp only at hS
  exact Ex.ifRet (Tst.cmp (Ev.loc rfl) (Ev.fl (p := 0) (by decide +kernel)) (Cmp.eqF (by decide) (by decide))) (fun q_ => Ex.ret3 rfl rfl rfl rfl) (fun e => by cases e)
 case hfin => exact Fin.ret
theorem hsv_any (c : C1) (H : List HObj) {h S W P Q T SF TF F j : Int} (bh : 0 ≤ h ∧ h ≤ 2 ^ 40) (s0 : 0 < S) (bS : In1 S) (bW : In1 W) (hj : (h * 6 / 2 ^ 30).fmod 6 = j) (j6 : j = 0 ∨ j = 1 ∨ j = 2 ∨ j = 3 ∨ j = 4 ∨ j = 5) (hF : h * 6 - h * 6 / 2 ^ 30 * 2 ^ 30 = F) (bF : In1 F)
  (hSF : S * F = SF * 2 ^ 30) (hTF : S * (2 ^ 30 - F) = TF * 2 ^ 30) (hP : W * (2 ^ 30 - S) = P * 2 ^ 30) (hQ : W * (2 ^ 30 - SF) = Q * 2 ^ 30) (hT : W * (2 ^ 30 - TF) = T * 2 ^ 30)
  (bSF : In1 SF) (bTF : In1 TF) (bP : In1 P) (bQ : In1 Q) (bT : In1 T) : Fn c.ct 3 (.val (.ref 86)) [.flt (fl h), .flt (fl S), .flt (fl W)] [] H H (triV (rgbOf j W P Q T)) := by
 have f1 : Fits h := Fits.of bh.1 (Int.lt_of_le_of_lt bh.2 (by decide))
 have p6 : 0 ≤ h * 6 := Int.mul_nonneg bh.1 (by decide)
 have l6 : h * 6 ≤ 2 ^ 40 * 6 := Int.mul_le_mul_of_nonneg_right bh.2 (by decide)
 have f6 : Fits (h * 6) := Fits.of p6 (Int.lt_of_le_of_lt l6 (by decide))
 have m6 : ∀ n H, Bin c.ct n .Mult (.flt (fl h)) (.flt (fl 6442450944)) H H (.flt (fl (h * 6))) := fun n H => Bin.mulF f1 (by decide) f6 bh.1 (by decide) (Int.mul_assoc h 6 (2 ^ 30)).symm
 have one : In1 (2 ^ 30) := by decide
 have co : ∀ {p}, In1 p → In1 (2 ^ 30 - p) := fun h => one.diff h h.2
 have sF : ∀ n H, Bin c.ct n .Sub (.flt (fl (h * 6))) (.int (h * 6 / 2 ^ 30)) H H (.flt (fl F)) := fun n H => hF ▸ Bin.subFI f6 (floor_fits p6 f6) (hF ▸ bF.fits)
 refine' fnOf (ns := ["h", "s", "v"]) (vs := [.flt (fl h), .flt (fl S), .flt (fl W)]) (o := .ret (triV (rgbOf j W P Q T)) H) ?ho ?hb ?hst ?hcd ?hns ?hnd ?hbind ?hbody ?hfin
 walk_at "t_of"
 case hbind => exact bind3 fun q_ q_ q_ => Looks.of_pure rfl
 case hbody =>
  intro env hS; dsimp only at hS
  exact (Ex.cons (Es.ifFb (Tst.cmp (Ev.loc rfl) (Ev.fl (p := 0) (by decide +kernel)) (Cmp.eqF bS.fits (by decide))) (decide_eq_false (Int.ne_of_gt s0)) Ex.nil)
 (Ex.cons (Es.assign (Ev.call (gB (g_int _) (kind_of hS rfl)) (EvA.args (EvL.cons (Ev.bin (Ev.loc rfl) (Ev.fl (p := 6442450944) (by decide +kernel)) (m6 _ _)) EvL.nil)) (by exact Fn.intFl f6 p6) Kp.typ) (il hS rfl) rfl)
 (Ex.cons (Es.assign (Ev.bin (Ev.bin (Ev.loc rfl) (Ev.fl (p := 6442450944) (by decide +kernel)) (m6 _ _)) (Ev.loc rfl) (sF _ _)) (il hS rfl) rfl)
 (Ex.cons (Es.assign (Ev.bin (Ev.loc rfl) (Ev.bin (Ev.fl (p := 2 ^ 30) (by decide +kernel)) (Ev.loc rfl) (Bin.subU one bS)) (Bin.mulU bW (co bS) bP hP)) (il hS rfl) rfl)
 (Ex.cons (Es.assign (Ev.bin (Ev.loc rfl) (Ev.bin (Ev.fl (p := 2 ^ 30) (by decide +kernel)) (Ev.b2 rfl rfl (Bin.mulU bS bF bSF hSF)) (Bin.subU one bSF)) (Bin.mulU bW (co bSF) bQ hQ)) (il hS rfl) rfl)
 (Ex.cons (Es.assign (Ev.bin (Ev.loc rfl) (Ev.bin (Ev.fl (p := 2 ^ 30) (by decide +kernel)) (Ev.bin (Ev.loc rfl) (Ev.bin (Ev.fl (p := 2 ^ 30) (by decide +kernel)) (Ev.loc rfl) (Bin.subU one bF)) (Bin.mulU bS (co bF) bTF hTF)) (Bin.subU one bTF)) (Bin.mulU bW (co bTF) bT hT)) (il hS rfl) rfl)
 (Ex.cons (Es.assign (Ev.bin (Ev.loc rfl) Ev.int (Bin.fmodE (by decide) hj)) (il hS rfl) rfl)
 (Ex.ifRet (Tst.cmp (Ev.loc rfl) Ev.int Cmp.eqI) (fun e => Ex.ret3 (hsv_at e) rfl rfl rfl) fun e0 =>
 Ex.ifRet (Tst.cmp (Ev.loc rfl) Ev.int Cmp.eqI) (fun e => Ex.ret3 (hsv_at e) rfl rfl rfl) fun e1 =>
 Ex.ifRet (Tst.cmp (Ev.loc rfl) Ev.int Cmp.eqI) (fun e => Ex.ret3 (hsv_at e) rfl rfl rfl) fun e2 =>
 Ex.ifRet (Tst.cmp (Ev.loc rfl) Ev.int Cmp.eqI) (fun e => Ex.ret3 (hsv_at e) rfl rfl rfl) fun e3 =>
 Ex.ifRet (Tst.cmp (Ev.loc rfl) Ev.int Cmp.eqI) (fun e => Ex.ret3 (hsv_at e) rfl rfl rfl) fun e4 =>
 Ex.ifRet (Tst.cmp (Ev.loc rfl) Ev.int Cmp.eqI) (fun e => Ex.ret3 (hsv_at e) rfl rfl rfl) fun e5 => (six_no j6 e0 e1 e2 e3 e4 e5).elim))))))))
 case hfin => exact Fin.ret
structure Wheel (r g b mx mn RC GC BC X : Int) : Prop where
 hR : (mx - r) * 2 ^ 30 = RC * (mx - mn)
 hG : (mx - g) * 2 ^ 30 = GC * (mx - mn)
 hB : (mx - b) * 2 ^ 30 = BC * (mx - mn)
 bR : In1 RC
 bG : In1 GC
 bB : In1 BC
 hX : (r = mx ∧ BC - GC = 6 * X) ∨ (r ≠ mx ∧ g = mx ∧ 2147483648 + RC - BC = 6 * X) ∨ (r ≠ mx ∧ g ≠ mx ∧ 4294967296 + GC - RC = 6 * X)
structure Rgb (r g b mx mn : Int) : Prop where
 br : In1 r
 bg : In1 g
 bb : In1 b
 hmx : big3 r g b = mx
 hmn : low3 r g b = mn
section
variable {r g b mx mn RC GC BC X : Int}
theorem Rgb.all (h : Rgb r g b mx mn) : In1 mx ∧ In1 mn ∧ In1 (mx - mn) ∧ In1 (mx - r) ∧ In1 (mx - g) ∧ In1 (mx - b) := by
 obtain ⟨h1, h2, h3, rfl, rfl⟩ := h
 have x : In1 (big3 r g b) := ⟨Int.le_trans h1.1 (Int.le_max_left _ _), Int.max_le.mpr ⟨h1.2, Int.max_le.mpr ⟨h2.2, h3.2⟩⟩⟩
 have n : In1 (low3 r g b) := ⟨Int.le_min.mpr ⟨h1.1, Int.le_min.mpr ⟨h2.1, h3.1⟩⟩, Int.le_trans (Int.min_le_left _ _) h1.2⟩
 exact ⟨x, n, x.diff n (Int.le_trans (Int.min_le_left _ _) (Int.le_max_left _ _)), x.diff h1 (Int.le_max_left _ _), x.diff h2 (Int.le_trans (Int.le_max_left _ _) (Int.le_max_right _ _)), x.diff h3 (Int.le_trans (Int.le_max_right _ _) (Int.le_max_right _ _))⟩
theorem Rgb.max (c : C1) {H : List HObj} (h : Rgb r g b mx mn) : Fn c.ct 2 (.val (.builtin "max")) [.flt (fl r), .flt (fl g), .flt (fl b)] [] H H (.flt (fl mx)) := h.hmx ▸ Fn.max3F h.br.fits h.bg.fits h.bb.fits
theorem Rgb.min (c : C1) {H : List HObj} (h : Rgb r g b mx mn) : Fn c.ct 2 (.val (.builtin "min")) [.flt (fl r), .flt (fl g), .flt (fl b)] [] H H (.flt (fl mn)) := h.hmn ▸ Fn.min3F h.br.fits h.bg.fits h.bb.fits
theorem pos_of (h : In1 (mx - mn)) (e : mn ≠ mx) : 0 < mx - mn := by lia
theorem six_fits {Y : Int} (h : Y = 6 * X) (f : Fits Y) : Fits (6 * X) ∧ Fits X := by omega
theorem add_fits {p q : Int} (h : In1 p) (k : 0 ≤ q) (l : q ≤ 4294967296) : Fits (q + p) := Fits.of (Int.add_nonneg k h.1) (Int.lt_of_le_of_lt (Int.add_le_add l h.2) (by decide))
theorem add_sub {p q r : Int} (h : In1 p) (i : In1 r) (k : 0 ≤ q) (l : q ≤ 4294967296) : Fits (q + p - r) := by omega
theorem Wheel.six (w : Wheel r g b mx mn RC GC BC X) : Fits (6 * X) ∧ Fits X := by
 obtain ⟨_, _, _, h1, h2, h3, ⟨_, h⟩ | ⟨_, _, h⟩ | ⟨_, _, h⟩⟩ := w
 ·exact six_fits h (h3.sub h2)
 ·exact six_fits h (add_sub h1 h3 (by decide) (by decide))
 ·exact six_fits h (add_sub h2 h1 (by decide) (by decide))
theorem six6 (h : Fits X) : 6 * X * 2 ^ 30 = X * 6442450944 := by lia
theorem Bin.subD {C : Ct} {n : Nat} {H : List HObj} {p q r : Int} (e : p - q = r) (hp : Fits p) (hq : Fits q) (hr : Fits r) (ht : C.tp := by trivial) : Bin C n .Sub (.flt (fl p)) (.flt (fl q)) H H (.flt (fl r)) := by subst e; exact Bin.subF hp hq hr ht
theorem Bin.divRE {C : Ct} {n : Nat} {H : List HObj} {a b s : UInt64} (e : s = Float64.div a b) (hb : Float64.isZero b = false) (ht : C.tp := by trivial) : Bin C n .Div (.flt a) (.flt b) H H (.flt s) := e ▸ Bin.divR hb ht
theorem Bin.hue {C : Ct} {n : Nat} {H : List HObj} (h : Fits (6 * X) ∧ Fits X) (ht : C.tp := by trivial) : Bin C n .Div (.flt (fl (6 * X))) (.flt (fl 6442450944)) H H (.flt (fl X)) := Bin.divF h.1 (by decide) h.2 (by decide) (six6 h.2) ht
theorem rgb_hsv (c : C1) (H : List HObj) {out : V} (h : Rgb r g b mx mn) (hg : mn = mx → out = .tup [.flt (fl 0), .flt (fl 0), .flt (fl mx)])
  (hw : mn ≠ mx → ∃ RC GC BC X S, Wheel r g b mx mn RC GC BC X ∧ (mx - mn) * 2 ^ 30 = S * mx ∧ Fits S ∧ out = .tup [.flt (fl (X % 2 ^ 30)), .flt (fl S), .flt (fl mx)]) : Fn c.ct 3 (.val (.ref 79)) [.flt (fl r), .flt (fl g), .flt (fl b)] [] H H out := by
 obtain ⟨bx, bn, bd, dr, dg, db⟩ := h.all
 refine' fnOf (ns := ["r", "g", "b"]) (vs := [.flt (fl r), .flt (fl g), .flt (fl b)]) (o := .ret out H) ?ho ?hb ?hst ?hcd ?hns ?hnd ?hbind ?hbody ?hfin
 walk_at "t_of"
 case hbind => exact bind3 fun q_ q_ q_ => Looks.of_pure rfl
 case hbody =>
  intro env hS; dsimp only at hS
  refine (Ex.cons (Es.assign (Ev.call (gB (g_max _) (kind_of hS rfl)) (EvA.loc3 rfl rfl rfl) (by exact h.max c) Kp.blt) (il hS rfl) rfl)
   (Ex.cons (Es.assign (Ev.call (gB (g_min _) (kind_of hS rfl)) (EvA.loc3 rfl rfl rfl) (by exact h.min c) Kp.blt) (il hS rfl) rfl)
   (Ex.cons (Es.assign (Ev.b2 rfl rfl (Bin.subU bx bn)) (il hS rfl) rfl)
   (Ex.cons (Es.assign (Ev.loc rfl) (il hS rfl) rfl)
   (Ex.ifRet (Tst.eq2 rfl rfl bn bx) (fun e => hg (of_decide_eq_true e) ▸ Ex.retV (Ev.tup (EvL.cons (Ev.fl (p := 0) (by decide +kernel)) (EvL.cons (Ev.fl (p := 0) (by decide +kernel)) (EvL.cons (Ev.loc rfl) EvL.nil)))))
    fun e => ?_)))))
  have ne := of_decide_eq_false e
  obtain ⟨RC, GC, BC, X, S, w, hSS, bS, ho⟩ := hw ne
  have b0 := pos_of bd ne
  have x0 : 0 < mx := Int.lt_of_lt_of_le b0 (Int.sub_le_self mx bn.1)
  refine (Ex.cons (Es.assign (Ev.b2 rfl rfl (Bin.divF bd.fits bx.fits bS x0 hSS)) (il hS rfl) rfl)
   (Ex.cons (Es.assign (Ev.bin (Ev.b2 rfl rfl (Bin.subU bx h.br)) (Ev.loc rfl) (Bin.divU dr bd w.bR b0 w.hR)) (il hS rfl) rfl)
   (Ex.cons (Es.assign (Ev.bin (Ev.b2 rfl rfl (Bin.subU bx h.bg)) (Ev.loc rfl) (Bin.divU dg bd w.bG b0 w.hG)) (il hS rfl) rfl)
   (Ex.cons (Es.assign (Ev.bin (Ev.b2 rfl rfl (Bin.subU bx h.bb)) (Ev.loc rfl) (Bin.divU db bd w.bB b0 w.hB)) (il hS rfl) rfl) ?_))))
  refine' Ex.consA "h" (.flt (fl (6 * X))) ?hue ?rest
  case hue =>
   have f6 := w.six.1
   rcases w.hX with ⟨h1, h2⟩ | ⟨h1, h2, h3⟩ | ⟨h1, h2, h3⟩
   ·exact Es.ifTb (Tst.eq2 rfl rfl h.br bx) (decide_eq_true h1) (Ex.one (Es.assign (Ev.b2 rfl rfl (Bin.subD h2 w.bB.fits w.bG.fits f6)) (il hS rfl) rfl))
   ·exact Es.ifFb (Tst.eq2 rfl rfl h.br bx) (decide_eq_false h1) (Ex.one (Es.ifTb (Tst.eq2 rfl rfl h.bg bx) (decide_eq_true h2) (Ex.one (Es.assign (Ev.bin (Ev.bin (Ev.fl (p := 2147483648) (by decide +kernel)) (Ev.loc rfl) (Bin.addF (by decide) w.bR.fits (add_fits w.bR (by decide) (by decide)))) (Ev.loc rfl) (Bin.subD h3 (add_fits w.bR (by decide) (by decide)) w.bB.fits f6)) (il hS rfl) rfl))))
   ·exact Es.ifFb (Tst.eq2 rfl rfl h.br bx) (decide_eq_false h1) (Ex.one (Es.ifFb (Tst.eq2 rfl rfl h.bg bx) (decide_eq_false h2) (Ex.one (Es.assign (Ev.bin (Ev.bin (Ev.fl (p := 4294967296) (by decide +kernel)) (Ev.loc rfl) (Bin.addF (by decide) w.bG.fits (add_fits w.bG (by decide) (by decide)))) (Ev.loc rfl) (Bin.subD h3 (add_fits w.bG (by decide) (by decide)) w.bR.fits f6)) (il hS rfl) rfl))))
  case rest => exact (Ex.cons (Es.assign (Ev.bin (Ev.bin (Ev.loc rfl) (Ev.fl (p := 6442450944) (by decide +kernel)) (Bin.hue w.six)) (Ev.fl (p := 2 ^ 30) (by decide +kernel)) (Bin.modF w.six.2)) (il hS rfl) rfl) (Ex.ret3 ho rfl rfl rfl))
 case hfin => exact Fin.ret
noncomputable def Sat (mx mn L : Int) (s : UInt64) : Prop := (L ≤ 536870912 ∧ s = Float64.div (fl (mx - mn)) (fl (mx + mn))) ∨ (¬ L ≤ 536870912 ∧ mx + mn < 2147483648 ∧ s = Float64.div (fl (mx - mn)) (fl (2147483648 - mx - mn)))
theorem nz_of {p : Int} (h : 0 < p) (f : Fits p) : Float64.isZero (fl p) = false := by rw [fl_isZero f]; exact decide_eq_false (Int.ne_of_gt h)
theorem two_sub {p q : Int} (h : p + q < 2147483648) : 0 < 2147483648 - p - q := by lia
theorem two_fits {p : Int} (h : In1 p) : Fits (2147483648 - p) := by omega
theorem two_fits2 {p q : Int} (h : In1 p) (k : In1 q) : Fits (2147483648 - p - q) := by omega
theorem half_of {p q L : Int} (e : p + q = 2 * L) (h : In1 p) (k : In1 q) : In1 L ∧ (p + q) * 2 ^ 30 = L * 2147483648 := by lia
theorem rgb_hls (c : C1) (H : List HObj) {out : V} {L : Int} (h : Rgb r g b mx mn) (hL : mx + mn = 2 * L) (hg : mn = mx → out = .tup [.flt (fl 0), .flt (fl L), .flt (fl 0)])
  (hw : mn ≠ mx → ∃ RC GC BC X s, Wheel r g b mx mn RC GC BC X ∧ Sat mx mn L s ∧ out = .tup [.flt (fl (X % 2 ^ 30)), .flt (fl L), .flt s]) : Fn c.ct 3 (.val (.ref 72)) [.flt (fl r), .flt (fl g), .flt (fl b)] [] H H out := by
 obtain ⟨bx, bn, bd, dr, dg, db⟩ := h.all
 obtain ⟨bL, hL'⟩ := half_of hL bx bn
 refine' fnOf (ns := ["r", "g", "b"]) (vs := [.flt (fl r), .flt (fl g), .flt (fl b)]) (o := .ret out H) ?ho ?hb ?hst ?hcd ?hns ?hnd ?hbind ?hbody ?hfin
 walk_at "t_of"
 case hbind => exact bind3 fun q_ q_ q_ => Looks.of_pure rfl
 case hbody =>
  intro env hS; dsimp only at hS
  refine (Ex.cons (Es.assign (Ev.call (gB (g_max _) (kind_of hS rfl)) (EvA.loc3 rfl rfl rfl) (by exact h.max c) Kp.blt) (il hS rfl) rfl)
   (Ex.cons (Es.assign (Ev.call (gB (g_min _) (kind_of hS rfl)) (EvA.loc3 rfl rfl rfl) (by exact h.min c) Kp.blt) (il hS rfl) rfl)
   (Ex.cons (Es.assign (Ev.b2 rfl rfl (Bin.addF bx.fits bn.fits (bx.add bn))) (il hS rfl) rfl)
   (Ex.cons (Es.assign (Ev.b2 rfl rfl (Bin.subU bx bn)) (il hS rfl) rfl)
   (Ex.cons (Es.assign (Ev.bin (Ev.loc rfl) (Ev.fl (p := 2147483648) (by decide +kernel)) (Bin.divF (bx.add bn) (by decide) bL.fits (by decide) hL')) (il hS rfl) rfl)
   (Ex.ifRet (Tst.eq2 rfl rfl bn bx) (fun e => hg (of_decide_eq_true e) ▸ Ex.retV (Ev.tup (EvL.cons (Ev.fl (p := 0) (by decide +kernel)) (EvL.cons (Ev.loc rfl) (EvL.cons (Ev.fl (p := 0) (by decide +kernel)) EvL.nil)))))
    fun e => ?_))))))
  have ne := of_decide_eq_false e
  obtain ⟨RC, GC, BC, X, s, w, hs, ho⟩ := hw ne
  have b0 := pos_of bd ne
  have x0 : 0 < mx + mn := Int.lt_of_lt_of_le b0 (Int.le_trans (Int.sub_le_self mx bn.1) (Int.le_add_of_nonneg_right bn.1))
  refine' Ex.consA "s" (.flt s) ?sat ?rest
  case sat =>
   rcases hs with ⟨h1, h2⟩ | ⟨h1, h2, h3⟩
   ·exact Es.ifTb (Tst.cmp (Ev.loc rfl) (Ev.fl (p := 536870912) (by decide +kernel)) (Cmp.leF bL.fits (by decide))) (decide_eq_true h1) (Ex.one (Es.assign (Ev.b2 rfl rfl (Bin.divRE h2 (nz_of x0 (bx.add bn)))) (il hS rfl) rfl))
   ·exact Es.ifFb (Tst.cmp (Ev.loc rfl) (Ev.fl (p := 536870912) (by decide +kernel)) (Cmp.leF bL.fits (by decide))) (decide_eq_false h1) (Ex.one (Es.assign (Ev.bin (Ev.loc rfl) (Ev.bin (Ev.bin (Ev.fl (p := 2147483648) (by decide +kernel)) (Ev.loc rfl) (Bin.subF (by decide) bx.fits (two_fits bx))) (Ev.loc rfl) (Bin.subF (two_fits bx) bn.fits (two_fits2 bx bn))) (Bin.divRE h3 (nz_of (two_sub h2) (two_fits2 bx bn)))) (il hS rfl) rfl))
  case rest =>
   refine (Ex.cons (Es.assign (Ev.bin (Ev.b2 rfl rfl (Bin.subU bx h.br)) (Ev.loc rfl) (Bin.divU dr bd w.bR b0 w.hR)) (il hS rfl) rfl)
    (Ex.cons (Es.assign (Ev.bin (Ev.b2 rfl rfl (Bin.subU bx h.bg)) (Ev.loc rfl) (Bin.divU dg bd w.bG b0 w.hG)) (il hS rfl) rfl)
    (Ex.cons (Es.assign (Ev.bin (Ev.b2 rfl rfl (Bin.subU bx h.bb)) (Ev.loc rfl) (Bin.divU db bd w.bB b0 w.hB)) (il hS rfl) rfl) ?_)))
   refine' Ex.consA "h" (.flt (fl (6 * X))) ?hue ?rest
   case hue =>
    have f6 := w.six.1
    rcases w.hX with ⟨h1, h2⟩ | ⟨h1, h2, h3⟩ | ⟨h1, h2, h3⟩
    ·exact Es.ifTb (Tst.eq2 rfl rfl h.br bx) (decide_eq_true h1) (Ex.one (Es.assign (Ev.b2 rfl rfl (Bin.subD h2 w.bB.fits w.bG.fits f6)) (il hS rfl) rfl))
    ·exact Es.ifFb (Tst.eq2 rfl rfl h.br bx) (decide_eq_false h1) (Ex.one (Es.ifTb (Tst.eq2 rfl rfl h.bg bx) (decide_eq_true h2) (Ex.one (Es.assign (Ev.bin (Ev.bin (Ev.fl (p := 2147483648) (by decide +kernel)) (Ev.loc rfl) (Bin.addF (by decide) w.bR.fits (add_fits w.bR (by decide) (by decide)))) (Ev.loc rfl) (Bin.subD h3 (add_fits w.bR (by decide) (by decide)) w.bB.fits f6)) (il hS rfl) rfl))))
    ·exact Es.ifFb (Tst.eq2 rfl rfl h.br bx) (decide_eq_false h1) (Ex.one (Es.ifFb (Tst.eq2 rfl rfl h.bg bx) (decide_eq_false h2) (Ex.one (Es.assign (Ev.bin (Ev.bin (Ev.fl (p := 4294967296) (by decide +kernel)) (Ev.loc rfl) (Bin.addF (by decide) w.bG.fits (add_fits w.bG (by decide) (by decide)))) (Ev.loc rfl) (Bin.subD h3 (add_fits w.bG (by decide) (by decide)) w.bR.fits f6)) (il hS rfl) rfl))))
   case rest => exact (Ex.cons (Es.assign (Ev.bin (Ev.bin (Ev.loc rfl) (Ev.fl (p := 6442450944) (by decide +kernel)) (Bin.hue w.six)) (Ev.fl (p := 2 ^ 30) (by decide +kernel)) (Bin.modF w.six.2)) (il hS rfl) rfl) (Ex.ret3 ho rfl rfl rfl))
 case hfin => exact Fin.ret
end
end
section
section
variable {C : Ct} {n : Nat} {env : Env} {σ : Loc} {H H1 H2 : List HObj} {pos : Pos} {v v1 : V} {e e1 e2 e3 : PySem.Expr} {a spot turns : Int}
theorem pow24 : Bin C n .Pow (.int 2) (.int 24) H H (.int 16777216) := Bin.pow (a := 2) (b := 24) (by decide) (by decide) (by decide)
theorem Ev.eqv (h : Ev C n env σ H e H1 v) (q : v = v1) : Ev C n env σ H e H1 v1 := q ▸ h
theorem Ev.ifD {b : Bool} (h : Tst C n env σ H e1 H1 b) (h2 : b = true → Ev C n env σ H1 e2 H2 v) (h3 : b = false → Ev C n env σ H1 e3 H2 v) : Ev C n env σ H (.IfExp e1 e2 e3 pos) H2 v := by
 cases b
 ·exact Ev.ifF h (h3 rfl)
 ·exact Ev.ifT h (h2 rfl)
theorem bne_no (e : (a != 0) = false) : a = 0 := by simpa using e
theorem bne_yes (e : (a != 0) = true) : a ≠ 0 := by simpa using e
theorem beq_no (e : (a == 0) = false) : a ≠ 0 := by simpa using e
theorem small64 (h : 0 ≤ a) (k : a ≤ 4) : a.natAbs < 2 ^ 64 := by lia
theorem scale (m k d : Int) (h : 0 ≤ a) (hm : a ≤ m) (e : 2 ^ 30 = k * d) (hd : 0 < d) (k0 : 0 ≤ k) (f : m * k < 2 ^ 53) (l : m < 2 ^ 60) (ht : C.tp := by trivial) : Bin C n .Div (.int a) (.int d) H H (.flt (fl (k * a))) :=
 Bin.divIF hd h (Int.lt_of_le_of_lt hm l) (Fits.of (Int.mul_nonneg k0 h) (Int.lt_of_le_of_lt (Int.mul_comm m k ▸ Int.mul_le_mul_of_nonneg_left hm k0) f)) (by rw [e, Int.mul_comm k a, Int.mul_assoc]) ht
theorem Bin.quart (h : 0 ≤ a ∧ a ≤ 4) (ht : C.tp := by trivial) : Bin C n .Div (.int a) (.int 4) H H (.flt (fl (268435456 * a))) := scale 4 268435456 4 h.1 h.2 (by decide) (by decide) (by decide) (by decide) (by decide) ht
theorem Bin.octet (h : 0 ≤ a ∧ a ≤ 32) (ht : C.tp := by trivial) : Bin C n .Div (.int a) (.int 32) H H (.flt (fl (33554432 * a))) := scale 32 33554432 32 h.1 h.2 (by decide) (by decide) (by decide) (by decide) (by decide) ht
theorem Bin.place (h : 0 ≤ a ∧ a < 16777216) (ht : C.tp := by trivial) : Bin C n .Div (.int a) (.int 16777216) H H (.flt (fl (64 * a))) := scale 16777216 64 16777216 h.1 (Int.le_of_lt h.2) (by decide) (by decide) (by decide) (by decide) (by decide) ht
theorem Bin.turn (h : 0 ≤ spot ∧ spot < 16777216) (k : 0 ≤ turns ∧ turns ≤ 3) (ht : C.tp := by trivial) : Bin C n .Add (.flt (fl (64 * spot))) (.int turns) H H (.flt (fl (64 * spot + turns * 2 ^ 30))) := Bin.addFI (by lia) (by lia) (by omega) ht
theorem quart_fits (h : 0 ≤ a ∧ a ≤ 4) : Fits (268435456 * a) := by lia
theorem octet_fits (h : 0 ≤ a ∧ a ≤ 32) : Fits (33554432 * a) := by lia
end
theorem painted (c : C1) (H : List HObj) {spot turns share value r g b hue : Int} {due full sat : V} {s1 s2 : UInt64} (b1 : 0 ≤ spot ∧ spot < 16777216) (b2 : 0 ≤ turns ∧ turns ≤ 3) (b3 : 0 ≤ share ∧ share ≤ 4) (b4 : 0 ≤ value ∧ value ≤ 4) (b5 : 0 ≤ value * (8 - share) ∧ value * (8 - share) ≤ 32)
  (h1 : ∀ H, Fn c.ct 3 (.val (.ref 86)) [.flt (fl (64 * spot + turns * 2 ^ 30)), .flt (fl (268435456 * share)), .flt (fl (268435456 * value))] [] H H (.tup [.flt (fl r), .flt (fl g), .flt (fl b)]))
  (h2 : ∀ H, Fn c.ct 3 (.val (.ref 79)) [.flt (fl r), .flt (fl g), .flt (fl b)] [] H H (.tup [.flt (fl hue), .flt s1, .flt (fl (268435456 * value))]))
  (h3 : ∀ H, Fn c.ct 3 (.val (.ref 72)) [.flt (fl r), .flt (fl g), .flt (fl b)] [] H H (.tup [.flt (fl hue), .flt (fl (33554432 * (value * (8 - share)))), .flt s2]))
  (d0 : share * value = 0 → due = .int 0 ∧ full = .int 0) (d1 : share * value ≠ 0 → due = .flt (fl (64 * spot)))
  (f1 : share * value ≠ 0 → value * (8 - share) ≤ 16 → full = .flt (Float64.ofFrac false share.natAbs (8 - share).natAbs))
  (f2 : share * value ≠ 0 → ¬ value * (8 - share) ≤ 16 → full = .flt (Float64.ofFrac false (value * share).natAbs (32 - value * (8 - share)).natAbs) ∧ value * (8 - share) < 32)
  (v0 : value = 0 → sat = .int 0) (v1 : value ≠ 0 → sat = .flt (fl (268435456 * share)))
  (q1 : EqV c.ct H 3 (.flt (fl hue)) due true) (q2 : EqV c.ct H 3 (.flt s1) sat true) (q3 : EqV c.ct H 3 (.flt s2) full true) : Fn c.ct 4 (.val (.ref 294)) [.int spot, .int turns, .int share, .int value] [] H H (.lst [.flt (fl hue), .flt (fl hue)]) := by
 have ms := small64 b3.1 b3.2
 have mv := small64 b4.1 b4.2
 have k0 : 0 ≤ value * share := Int.mul_nonneg b4.1 b3.1
 have k1 : value * share < 2 ^ 60 := Int.lt_of_le_of_lt (Int.mul_le_mul b4.2 b3.2 b3.1 (by decide)) (by decide)
 refine' fnOf (ns := [Str.ofString "spot", Str.ofString "turns", Str.ofString "share", Str.ofString "value"]) (vs := [.int spot, .int turns, .int share, .int value]) (o := .ret (.lst [.flt (fl hue), .flt (fl hue)]) H) ?ho ?hb ?hst ?hcd ?hns ?hnd ?hbind ?hbody ?hfin
 walk_at "t_of"
 case hbind => exact bind4 fun q_ q_ q_ q_ => Looks.of_pure rfl
 case hbody =>
  intro env hS; dsimp only at hS
  exact (Ex.cons (Es.assignS (Ev.tup (EvL.cons (Ev.ifD (Tst.val (Ev.b2 rfl rfl (Bin.mul (mulOk ms))) Tru.int rfl) (fun e => Ev.eqv (Ev.bin (Ev.loc rfl) (Ev.bin Ev.int Ev.int pow24) (Bin.place b1)) (d1 (bne_yes e)).symm) (fun e => Ev.eqv Ev.int (d0 (bne_no e)).1.symm)) (EvL.cons (Ev.bin (Ev.loc rfl) (Ev.bin Ev.int (Ev.loc rfl) Bin.sub) (Bin.mul (mulOk mv))) EvL.nil))) rfl (stos_cons (il hS rfl) (stos_cons (il hS rfl) stos_nil)) (sw_of hS (by intro e he; cases e; dsimp only at he; subst he; rfl)) (ss_of hS (by intro e he; cases e; dsimp only at he; subst he; rfl)))
 (Ex.cons (Es.assign (Ev.ifD (Tst.cmp (Ev.b2 rfl rfl (Bin.mul (mulOk ms))) Ev.int Cmp.eqI) (fun e => Ev.eqv Ev.int (d0 (eq_of_beq e)).2.symm) (fun e => Ev.ifD (Tst.cmp (Ev.loc rfl) Ev.int Cmp.leI)
   (fun k => Ev.eqv (Ev.bin (Ev.loc rfl) (Ev.bin Ev.int (Ev.loc rfl) Bin.sub) (Bin.divII (Int.sub_pos.mpr (Int.lt_of_le_of_lt b3.2 (by decide))) b3.1 (Int.lt_of_le_of_lt b3.2 (by decide)))) (f1 (beq_no e) (of_decide_eq_true k)).symm)
   (fun k => Ev.eqv (Ev.bin (Ev.b2 rfl rfl (Bin.mul (mulOk mv))) (Ev.bin Ev.int (Ev.loc rfl) Bin.sub) (Bin.divII (Int.sub_pos.mpr (f2 (beq_no e) (of_decide_eq_false k)).2) k0 k1)) (f2 (beq_no e) (of_decide_eq_false k)).1.symm))) (il hS rfl) rfl)
 (Ex.cons (Es.assignT (Ev.call (gV (g_hsv_to_rgb _) (kind_of hS rfl)) (EvA.args (EvL.cons (Ev.bin (Ev.bin (Ev.loc rfl) (Ev.bin Ev.int Ev.int pow24) (Bin.place b1)) (Ev.loc rfl) (Bin.turn b1 b2)) (EvL.cons (Ev.bin (Ev.loc rfl) Ev.int (Bin.quart b3)) (EvL.cons (Ev.bin (Ev.loc rfl) Ev.int (Bin.quart b4)) EvL.nil)))) (by exact h1 _) (kp_hsv_to_rgb _)) (AsL.cons (Ast.name (.inr ⟨(il hS rfl), rfl⟩)) (AsL.cons (Ast.name (.inr ⟨(il hS rfl), rfl⟩)) (AsL.cons (Ast.name (.inr ⟨(il hS rfl), rfl⟩)) AsL.nil))) (sw_of hS (by intro e he; cases e; dsimp only at he; subst he; rfl)) (ss_of hS (by intro e he; cases e; dsimp only at he; subst he; rfl)))
 (Ex.cons (Es.assignS (Ev.tup (EvL.cons (Ev.call (gV (g_rgb_to_hsv _) (kind_of hS rfl)) (EvA.loc3 rfl rfl rfl) (by exact h2 _) (kp_rgb_to_hsv _)) (EvL.cons (Ev.call (gV (g_rgb_to_hls _) (kind_of hS rfl)) (EvA.loc3 rfl rfl rfl) (by exact h3 _) (kp_rgb_to_hls _)) EvL.nil))) rfl (stos_cons (il hS rfl) (stos_cons (il hS rfl) stos_nil)) (sw_of hS (by intro e he; cases e; dsimp only at he; subst he; rfl)) (ss_of hS (by intro e he; cases e; dsimp only at he; subst he; rfl)))
 (Ex.retV (Ev.ifTb (Tst.boolOp (BoT.nextb (Tst.cmp (Ev.loc rfl) (Ev.tup (EvL.cons (Ev.loc rfl) (EvL.cons (Ev.ifD (Tst.val (Ev.loc rfl) Tru.int rfl) (fun e => Ev.eqv (Ev.bin (Ev.loc rfl) Ev.int (Bin.quart b3)) (v1 (bne_yes e)).symm) (fun e => Ev.eqv Ev.int (v0 (bne_no e)).symm)) (EvL.cons (Ev.bin (Ev.loc rfl) Ev.int (Bin.quart b4)) EvL.nil)))) (Cmp.eqT (d := 3) (EqVs.cons q1 (EqVs.cons q2 (EqVs.cons (EqV.fl (quart_fits b4)) EqVs.nil))) (by decide))) (by rfl)
  (BoT.nextb (Tst.cmp (Ev.loc rfl) (Ev.tup (EvL.cons (Ev.loc rfl) (EvL.cons (Ev.bin (Ev.loc rfl) Ev.int (Bin.octet b5)) (EvL.cons (Ev.loc rfl) EvL.nil)))) (Cmp.eqT (d := 3) (EqVs.cons q1 (EqVs.cons (EqV.fl (octet_fits b5)) (EqVs.cons q3 EqVs.nil))) (by decide))) (by rfl) BoT.nil))) (by rfl)
  (Ev.lst (EvL.cons (Ev.sub (Ev.loc rfl) Ev.int (Itm.tup (by decide) (by decide) rfl rfl (fun q_ q_ => rfl))) (EvL.cons (Ev.sub (Ev.loc rfl) Ev.int (Itm.tup (by decide) (by decide) rfl rfl (fun q_ q_ => rfl))) EvL.nil)))))))))
 case hfin => exact Fin.ret
end
section
structure Six (spot j G : Int) : Prop where
 at_ : 3 * spot = 8388608 * j + G
 jc : j = 0 ∨ j = 1 ∨ j = 2 ∨ j = 3 ∨ j = 4 ∨ j = 5
 g0 : 0 ≤ G ∧ G ≤ 8388607
theorem six_of {spot : Int} (h : 0 ≤ spot ∧ spot < 16777216) : Six spot (3 * spot / 8388608) (3 * spot % 8388608) := ⟨by lia, by lia, by lia⟩
section
variable {spot turns share value j G : Int} {a b c d p q r W D E g : Int}
theorem Six.div (s : Six spot j G) : (64 * spot + turns * 2 ^ 30) * 6 / 2 ^ 30 = j + 6 * turns := by
 obtain ⟨h, _, k⟩ := s; lia
theorem Six.rest (s : Six spot j G) : (64 * spot + turns * 2 ^ 30) * 6 - (64 * spot + turns * 2 ^ 30) * 6 / 2 ^ 30 * 2 ^ 30 = 128 * G := by
 rw [s.div]; have h := s.at_; clear s; lia
theorem Six.mod (s : Six spot j G) : ((64 * spot + turns * 2 ^ 30) * 6 / 2 ^ 30).fmod 6 = j := by
 rw [s.div, Int.fmod_eq_emod_of_nonneg _ (by decide), Int.add_mul_emod_self_left]
 rcases s.jc with rfl | rfl | rfl | rfl | rfl | rfl <;> rfl
theorem compl (h : a * b = c * 2 ^ 30) : a * (2 ^ 30 - b) = (a - c) * 2 ^ 30 := by rw [Int.mul_sub, Int.sub_mul, h]
theorem both (h : a * b = p * 2 ^ 30) (k : a * c = q * 2 ^ 30) : a * (b - c) = (p - q) * 2 ^ 30 := by rw [Int.mul_sub, Int.sub_mul, h, k]
theorem prod (x y : Int) (h : a * b = c * 2 ^ 30) : a * x * (b * y) = c * (x * y) * 2 ^ 30 := by rw [Int.mul_assoc a x, Int.mul_left_comm x b, ← Int.mul_assoc a b, h, Int.mul_right_comm]
theorem le_mul (m k : Int) (h : 0 ≤ a ∧ a ≤ m) (k0 : 0 ≤ k) (e : k * m ≤ 2 ^ 30) : In1 (k * a) := ⟨Int.mul_nonneg k0 h.1, Int.le_trans (Int.mul_le_mul_of_nonneg_left h.2 k0) e⟩
theorem le_prod (h : 0 ≤ a ∧ a ≤ p) (k : 0 ≤ b ∧ b ≤ q) : 0 ≤ a * b ∧ a * b ≤ p * q := ⟨Int.mul_nonneg h.1 k.1, Int.mul_le_mul h.2 k.2 k.1 (Int.le_trans h.1 h.2)⟩
noncomputable def rgbP (j W D E : Int) : Int × Int × Int := rgbOf j W (W - D) (W - E) (W - (D - E))
theorem turn_bd (b1 : 0 ≤ spot ∧ spot < 16777216) (b2 : 0 ≤ turns ∧ turns ≤ 3) : 0 ≤ 64 * spot + turns * 2 ^ 30 ∧ 64 * spot + turns * 2 ^ 30 ≤ 2 ^ 40 := by lia
theorem down2 (h : a ≤ b * 8388607) (k : 0 ≤ b) : 8 * a ≤ 67108864 * b ∧ 32 * a ≤ 268435456 * b := by lia
theorem down3 (h : a ≤ b * 8388607) (k : 1 ≤ b) : 8 * a < 67108864 * b := by lia
theorem painted_rgb (c : C1) (H : List HObj) (s : Six spot j G) (b1 : 0 ≤ spot ∧ spot < 16777216) (b2 : 0 ≤ turns ∧ turns ≤ 3) (b3 : 1 ≤ share ∧ share ≤ 4) (b4 : 0 ≤ value ∧ value ≤ 4) :
  Fn c.ct 3 (.val (.ref 86)) [.flt (fl (64 * spot + turns * 2 ^ 30)), .flt (fl (268435456 * share)), .flt (fl (268435456 * value))] [] H H (triV (rgbP j (268435456 * value) (67108864 * (value * share)) (8 * (value * (share * G))))) := by
 have b3' : 0 ≤ share ∧ share ≤ 4 := ⟨Int.le_trans (by decide) b3.1, b3.2⟩
 have bS := le_mul 4 268435456 b3' (by decide) (by decide)
 have bW := le_mul 4 268435456 b4 (by decide) (by decide)
 have bF := le_mul 8388607 128 s.g0 (by decide) (by decide)
 have bK := le_prod b4 b3'
 have bD := le_mul (4 * 4) 67108864 bK (by decide) (by decide)
 have bg := le_prod b3' s.g0
 have bSF := le_mul (4 * 8388607) 32 bg (by decide) (by decide)
 have bE := le_mul (4 * (4 * 8388607)) 8 (le_prod b4 bg) (by decide) (by decide)
 have l1 := (down2 (Int.mul_le_mul_of_nonneg_left s.g0.2 b3'.1) b3'.1).2
 have l2 : 67108864 * (value * share) ≤ 268435456 * value := by
  have := Int.mul_le_mul_of_nonneg_left b3.2 b4.1; clear s bF bK bD bg bSF bE l1 bS bW; lia
 have l3 : 8 * (value * (share * G)) ≤ 67108864 * (value * share) := by
  have := (down2 (Int.mul_le_mul_of_nonneg_left s.g0.2 bK.1) bK.1).1
  rwa [Int.mul_assoc] at this
 have hSF := prod (a := 268435456) (b := 128) (c := 32) share G (by decide)
 have hWS := prod (a := 268435456) (b := 268435456) (c := 67108864) value share (by decide)
 have hWF := prod (a := 268435456) (b := 32) (c := 8) value (share * G) (by decide)
 exact hsv_any c H (turn_bd b1 b2) (Int.mul_pos (by decide) b3.1) bS bW s.mod s.jc s.rest bF hSF (compl hSF) (compl hWS) (compl hWF) (compl (both hWS hWF)) bSF (bS.diff bSF l1) (bW.diff bD l2) (bW.diff bE (Int.le_trans l3 l2)) (bW.diff (bD.diff bE l3) (Int.le_trans (Int.sub_le_self _ bE.1) l2))
theorem big3_a (h1 : b ≤ a) (h2 : c ≤ a) : big3 a b c = a ∧ big3 b a c = a ∧ big3 b c a = a :=
 ⟨Int.max_eq_left (Int.max_le.mpr ⟨h1, h2⟩), by rw [big3, Int.max_eq_left h2, Int.max_eq_right h1], by rw [big3, Int.max_eq_right h2, Int.max_eq_right h1]⟩
theorem low3_a (h1 : a ≤ b) (h2 : a ≤ c) : low3 a b c = a ∧ low3 b a c = a ∧ low3 b c a = a :=
 ⟨Int.min_eq_left (Int.le_min.mpr ⟨h1, h2⟩), by rw [low3, Int.min_eq_left h2, Int.min_eq_right h1], by rw [low3, Int.min_eq_right h2, Int.min_eq_right h1]⟩
theorem rgb_of (jc : j = 0 ∨ j = 1 ∨ j = 2 ∨ j = 3 ∨ j = 4 ∨ j = 5) (bW : In1 W) (d0 : 0 ≤ D) (dW : D ≤ W) (e0 : 0 ≤ E) (eD : E ≤ D) : Rgb (rgbP j W D E).1 (rgbP j W D E).2.1 (rgbP j W D E).2.2 W (W - D) := by
 have bD : In1 D := ⟨d0, Int.le_trans dW bW.2⟩
 have bE : In1 E := ⟨e0, Int.le_trans eD bD.2⟩
 have eW := Int.le_trans eD dW
 have dE := Int.sub_le_self D e0
 have bP := bW.diff bD dW
 have bQ := bW.diff bE eW
 have bT := bW.diff (bD.diff bE eD) (Int.le_trans dE dW)
 have pQ : W - D ≤ W - E := Int.sub_le_sub_left eD W
 have pT : W - D ≤ W - (D - E) := Int.sub_le_sub_left dE W
 have qW : W - E ≤ W := Int.sub_le_self W e0
 have tW : W - (D - E) ≤ W := Int.sub_le_self W (Int.sub_nonneg.mpr eD)
 have pW : W - D ≤ W := Int.sub_le_self W d0
 rcases jc with rfl | rfl | rfl | rfl | rfl | rfl
 ·exact ⟨bW, bT, bP, (big3_a tW pW).1, (low3_a pW pT).2.2⟩
 ·exact ⟨bQ, bW, bP, (big3_a qW pW).2.1, (low3_a pQ pW).2.2⟩
 ·exact ⟨bP, bW, bT, (big3_a pW tW).2.1, (low3_a pW pT).1⟩
 ·exact ⟨bP, bQ, bW, (big3_a pW qW).2.2, (low3_a pQ pW).1⟩
 ·exact ⟨bT, bP, bW, (big3_a tW pW).2.2, (low3_a pT pW).2.1⟩
 ·exact ⟨bW, bP, bQ, (big3_a pW qW).1, (low3_a pW pQ).2.1⟩
theorem hue_eq (x : Int) : (6 * x = 2 ^ 30 * 0 + g → 2 ^ 30 - (2 ^ 30 - g) = 6 * x) ∧ (6 * x = 2 ^ 30 * 1 + g → 2147483648 + g - 2 ^ 30 = 6 * x) ∧ (6 * x = 2 ^ 30 * 2 + g → 2147483648 + 2 ^ 30 - (2 ^ 30 - g) = 6 * x) ∧
  (6 * x = 2 ^ 30 * 3 + g → 4294967296 + g - 2 ^ 30 = 6 * x) ∧ (6 * x = 2 ^ 30 * 4 + g → 4294967296 + 2 ^ 30 - (2 ^ 30 - g) = 6 * x) ∧ (6 * x = 2 ^ 30 * 5 + g → g - 2 ^ 30 = 6 * (x - 2 ^ 30)) := by
 refine ⟨?_, ?_, ?_, ?_, ?_, ?_⟩ <;> intro h <;> lia
theorem hue_three {x : Int} (h : 6 * x = 2 ^ 30 * 3 + g) (k : g = 0) : 2147483648 + 2 ^ 30 - 0 = 6 * x := by lia
theorem hue_one {x : Int} (h : 6 * (64 * x) = 2 ^ 30 * 1 + g) (k : g = 0) : False := by lia
theorem hue_mod {x : Int} (h : 0 ≤ x ∧ x < 16777216) : 64 * x % 2 ^ 30 = 64 * x ∧ (64 * x - 2 ^ 30) % 2 ^ 30 = 64 * x := by omega
theorem ne_sub (h : a ≠ 0) : W - a ≠ W := by lia
theorem wheel_of (jc : j = 0 ∨ j = 1 ∨ j = 2 ∨ j = 3 ∨ j = 4 ∨ j = 5) (hx : 6 * (64 * spot) = 2 ^ 30 * j + g) (b1 : 0 ≤ spot ∧ spot < 16777216) (d0 : 0 < D) (eD : E < D) (bg : In1 g) (q : E * 2 ^ 30 = g * D) (hz : E = 0 → g = 0) :
  ∃ RC GC BC X, Wheel (rgbP j W D E).1 (rgbP j W D E).2.1 (rgbP j W D E).2.2 W (W - D) RC GC BC X ∧ X % 2 ^ 30 = 64 * spot := by
 have eW : (W - W) * 2 ^ 30 = 0 * (W - (W - D)) := by rw [Int.sub_self, Int.zero_mul, Int.zero_mul]
 have eP : (W - (W - D)) * 2 ^ 30 = 2 ^ 30 * (W - (W - D)) := Int.mul_comm _ _
 have eQ : (W - (W - E)) * 2 ^ 30 = g * (W - (W - D)) := by rw [Int.sub_sub_self, Int.sub_sub_self]; exact q
 have eT : (W - (W - (D - E))) * 2 ^ 30 = (2 ^ 30 - g) * (W - (W - D)) := by rw [Int.sub_sub_self, Int.sub_sub_self, Int.sub_mul, Int.sub_mul, q, Int.mul_comm D]
 have z : In1 0 := by decide
 have o : In1 (2 ^ 30) := by decide
 have bh : In1 (2 ^ 30 - g) := o.diff bg bg.2
 have nP : W - D ≠ W := ne_sub (Int.ne_of_gt d0)
 have nT : W - (D - E) ≠ W := ne_sub (Int.ne_of_gt (Int.sub_pos.mpr eD))
 have m := hue_mod b1
 obtain ⟨t0, t1, t2, t3, t4, t5⟩ := hue_eq (g := g) (64 * spot)
 rcases jc with rfl | rfl | rfl | rfl | rfl | rfl
 ·exact ⟨0, 2 ^ 30 - g, 2 ^ 30, 64 * spot, ⟨eW, eT, eP, z, bh, o, .inl ⟨rfl, t0 hx⟩⟩, m.1⟩
 ·exact ⟨g, 0, 2 ^ 30, 64 * spot, ⟨eQ, eW, eP, bg, z, o, .inr (.inl ⟨ne_sub fun e => hue_one hx (hz e), rfl, t1 hx⟩)⟩, m.1⟩
 ·exact ⟨2 ^ 30, 0, 2 ^ 30 - g, 64 * spot, ⟨eP, eW, eT, o, z, bh, .inr (.inl ⟨nP, rfl, t2 hx⟩)⟩, m.1⟩
 ·have w : ((W - D = W ∧ (0 : Int) - g = 6 * (64 * spot)) ∨ (W - D ≠ W ∧ W - E = W ∧ 2147483648 + 2 ^ 30 - 0 = 6 * (64 * spot)) ∨ (W - D ≠ W ∧ W - E ≠ W ∧ 4294967296 + g - 2 ^ 30 = 6 * (64 * spot))) := by
   by_cases k : E = 0
   ·exact .inr (.inl ⟨nP, by rw [k, Int.sub_zero], hue_three hx (hz k)⟩)
   ·exact .inr (.inr ⟨nP, ne_sub k, t3 hx⟩)
  exact ⟨2 ^ 30, g, 0, 64 * spot, ⟨eP, eQ, eW, o, bg, z, w⟩, m.1⟩
 ·exact ⟨2 ^ 30 - g, 2 ^ 30, 0, 64 * spot, ⟨eT, eP, eW, bh, o, z, .inr (.inr ⟨nT, nP, t4 hx⟩)⟩, m.1⟩
 ·exact ⟨0, 2 ^ 30, g, 64 * spot - 2 ^ 30, ⟨eW, eP, eQ, z, o, bg, .inl ⟨rfl, t5 hx⟩⟩, m.2⟩
end
noncomputable def Sound (s : UInt64) : Prop := Float64.isNaN s = false ∧ Float64.cmp s s = some .eq
theorem darkQ {share value : Int} (b3 : 1 ≤ share ∧ share ≤ 4) (b4 : 1 ≤ value ∧ value ≤ 4) :
  Float64.div (fl (268435456 * value - (268435456 * value - 67108864 * (value * share)))) (fl (268435456 * value + (268435456 * value - 67108864 * (value * share)))) = Float64.ofFrac false share.natAbs (8 - share).natAbs ∧
  Float64.div (fl (268435456 * value - (268435456 * value - 67108864 * (value * share)))) (fl (2147483648 - 268435456 * value - (268435456 * value - 67108864 * (value * share)))) = Float64.ofFrac false (value * share).natAbs (32 - value * (8 - share)).natAbs ∧
  Sound (Float64.ofFrac false share.natAbs (8 - share).natAbs) ∧ Sound (Float64.ofFrac false (value * share).natAbs (32 - value * (8 - share)).natAbs) ∧ value * (8 - share) < 32 := by
 have h1 : share = 1 ∨ share = 2 ∨ share = 3 ∨ share = 4 := by lia
 have h2 : value = 1 ∨ value = 2 ∨ value = 3 ∨ value = 4 := by clear h1; lia
 unfold Sound
 rcases h1 with rfl | rfl | rfl | rfl <;> rcases h2 with rfl | rfl | rfl | rfl <;> decide +kernel
end
section
noncomputable def hueOf (spot share value : Int) : Int := if share * value = 0 then 0 else 64 * spot
theorem grey_rgb (w : Int) (h : In1 w) : Rgb w w w w w := ⟨h, h, h, (big3_a (Int.le_refl _) (Int.le_refl _)).1, (low3_a (Int.le_refl _) (Int.le_refl _)).1⟩
section
variable {spot turns share value : Int}
theorem grey_hsv (c : C1) (H : List HObj) (b1 : 0 ≤ spot ∧ spot < 16777216) (b2 : 0 ≤ turns ∧ turns ≤ 3) (b3 : 0 ≤ share ∧ share ≤ 4) (b4 : 0 ≤ value ∧ value ≤ 4) (hz : share * value = 0) :
  Fn c.ct 3 (.val (.ref 86)) [.flt (fl (64 * spot + turns * 2 ^ 30)), .flt (fl (268435456 * share)), .flt (fl (268435456 * value))] [] H H (.tup [.flt (fl (268435456 * value)), .flt (fl (268435456 * value)), .flt (fl (268435456 * value))]) := by
 by_cases hs : share = 0
 ·subst hs
  exact hsv_grey c H (Fits.of (turn_bd b1 b2).1 (Int.lt_of_le_of_lt (turn_bd b1 b2).2 (by decide))) (quart_fits b4)
 ·have hv : value = 0 := (Int.mul_eq_zero.mp hz).resolve_left hs
  have q := painted_rgb c H (turns := turns) (value := value) (six_of b1) b1 b2 (share := share) ⟨by lia, b3.2⟩ b4
  have e : rgbP (3 * spot / 8388608) (268435456 * value) (67108864 * (value * share)) (8 * (value * (share * (3 * spot % 8388608)))) = (268435456 * value, 268435456 * value, 268435456 * value) := by
   rw [hv, Int.zero_mul, Int.zero_mul]
   simp only [rgbP, rgbOf, Int.mul_zero, Int.sub_self, ite_self]
  rw [e] at q
  exact q
theorem grey_light (hz : share * value = 0) : 268435456 * value + 268435456 * value = 2 * (33554432 * (value * (8 - share))) := by
 rw [Int.mul_sub, Int.mul_comm value share, hz]; lia
theorem light_of (b3 : 1 ≤ share) (b4 : 0 ≤ value) (k : value * (8 - share) = 8 * value - value * share) : 268435456 * value + (268435456 * value - 67108864 * (value * share)) = 2 * (33554432 * (value * (8 - share))) := by
 rw [k]; clear k b3 b4; lia
theorem light_bd (b3 : 0 ≤ share ∧ share ≤ 4) (b4 : 0 ≤ value ∧ value ≤ 4) : 0 ≤ value * (8 - share) ∧ value * (8 - share) ≤ 32 := le_prod (p := 4) (q := 8) b4 ⟨by lia, by lia⟩
theorem hue_at {j G : Int} (h : 3 * spot = 8388608 * j + G) : 6 * (64 * spot) = 2 ^ 30 * j + 128 * G := by lia
theorem wheel_q (v s g : Int) : 8 * (v * (s * g)) * 2 ^ 30 = 128 * g * (67108864 * (v * s)) := by
 rw [← Int.mul_assoc v, Int.mul_comm (v * s) g]
 exact (prod (a := 128) (b := 67108864) (c := 8) g (v * s) (by decide)).symm
theorem fn_painted (c : C1) (H : List HObj) (b1 : 0 ≤ spot ∧ spot < 16777216) (b2 : 0 ≤ turns ∧ turns ≤ 3) (b3 : 0 ≤ share ∧ share ≤ 4) (b4 : 0 ≤ value ∧ value ≤ 4) :
  Fn c.ct 4 (.val (.ref 294)) [.int spot, .int turns, .int share, .int value] [] H H (.lst [.flt (fl (hueOf spot share value)), .flt (fl (hueOf spot share value))]) := by
 have b5 := light_bd b3 b4
 have bW := le_mul 4 268435456 b4 (by decide) (by decide)
 unfold hueOf
 by_cases hz : share * value = 0
 ·rw [if_pos hz]
  refine painted (due := .int 0) (full := .int 0) (sat := if value = 0 then .int 0 else .flt (fl (268435456 * share))) (s1 := fl 0) (s2 := fl 0) c H b1 b2 b3 b4 b5 (fun H => grey_hsv c H b1 b2 b3 b4 hz)
   (fun H => rgb_hsv c H (grey_rgb _ bW) (fun q_ => rfl) fun h => absurd rfl h) (fun H => rgb_hls c H (grey_rgb _ bW) (grey_light hz) (fun q_ => rfl) fun h => absurd rfl h)
   (fun q_ => ⟨rfl, rfl⟩) (fun h => absurd hz h) (fun h => absurd hz h) (fun h => absurd hz h) (fun h => if_pos h) (fun h => if_neg h) (EqV.flI (by decide)) ?_ (EqV.flI (by decide))
  by_cases hv : value = 0
  ·rw [if_pos hv]; exact EqV.flI (by decide)
  ·rw [if_neg hv, (Int.mul_eq_zero.mp hz).resolve_right hv]; exact EqV.fl (p := 0) (by decide)
 ·rw [if_neg hz]
  have hv : value ≠ 0 := fun h => hz (by rw [h, Int.mul_zero])
  have hs : share ≠ 0 := fun h => hz (by rw [h, Int.zero_mul])
  have b3' : 1 ≤ share ∧ share ≤ 4 := ⟨Int.lt_iff_le_and_ne.mpr ⟨b3.1, hs.symm⟩, b3.2⟩
  have b4' : 1 ≤ value ∧ value ≤ 4 := ⟨Int.lt_iff_le_and_ne.mpr ⟨b4.1, hv.symm⟩, b4.2⟩
  obtain ⟨d1, d2, d3, d5, d7⟩ := darkQ b3' b4'
  have s := six_of b1
  have k1 : 0 < value * share := Int.mul_pos b4'.1 b3'.1
  have kD : 67108864 * (value * share) ≤ 268435456 * value := by
   have := Int.mul_le_mul_of_nonneg_left b3.2 b4.1; lia
  have bg := le_prod b3 s.g0
  have kE : 8 * (value * (share * (3 * spot % 8388608))) < 67108864 * (value * share) := by
   have := down3 (Int.mul_le_mul_of_nonneg_left s.g0.2 (Int.le_of_lt k1)) k1
   rwa [Int.mul_assoc] at this
  have rg := rgb_of s.jc bW (Int.mul_nonneg (by decide) (Int.le_of_lt k1)) kD (Int.mul_nonneg (by decide) (Int.mul_nonneg b4.1 bg.1)) (Int.le_of_lt kE)
  obtain ⟨RC, GC, BC, X, W, hX⟩ := wheel_of (W := 268435456 * value) s.jc (hue_at s.at_) b1 (Int.mul_pos (by decide) k1) kE (le_mul 8388607 128 s.g0 (by decide) (by decide)) (wheel_q _ _ _) (fun h => by
   rcases Int.mul_eq_zero.mp h with h | h
   ·cases h
   ·rw [((Int.mul_eq_zero.mp ((Int.mul_eq_zero.mp h).resolve_left hv)).resolve_left hs)]; rfl)
  have e8 : value * (8 - share) = 8 * value - value * share := by rw [Int.mul_sub, Int.mul_comm value 8]
  have hS := prod (a := 268435456) (b := 268435456) (c := 67108864) value share (by decide)
  have sound : ∀ {s : UInt64} {H}, Sound s → EqV c.ct H 3 (.flt s) (.flt s) true := fun h => EqV.flt _ h.1 h.2
  have h2 : ∀ H, Fn c.ct 3 (.val (.ref 79)) _ [] H H (.tup [.flt (fl (64 * spot)), .flt (fl (268435456 * share)), .flt (fl (268435456 * value))]) := fun H => rgb_hsv c H rg (fun h => absurd h (by lia)) fun q_ => ⟨RC, GC, BC, X, 268435456 * share, W, by rw [Int.sub_sub_self, ← hS, Int.mul_comm], quart_fits b3, by rw [hX]⟩
  have h3 : ∀ {st : UInt64}, Sat (268435456 * value) (268435456 * value - 67108864 * (value * share)) (33554432 * (value * (8 - share))) st → ∀ H, Fn c.ct 3 (.val (.ref 72)) _ [] H H (.tup [.flt (fl (64 * spot)), .flt (fl (33554432 * (value * (8 - share)))), .flt st]) := fun hs H =>
   rgb_hls c H rg (light_of b3'.1 b4.1 e8) (fun h => absurd h (by omega)) fun q_ => ⟨RC, GC, BC, X, _, W, hs, by rw [hX]⟩
  have h1 := fun H => painted_rgb c H (turns := turns) s b1 b2 b3' b4
  by_cases hl : value * (8 - share) ≤ 16
  ·exact painted c H b1 b2 b3 b4 b5 h1 h2 (h3 (.inl ⟨by lia, d1.symm⟩)) (fun h => absurd h hz) (fun q_ => rfl) (fun q_ q_ => rfl) (fun q_ h => absurd hl h) (fun h => absurd h hv) (fun q_ => rfl) (EqV.fl (by lia)) (EqV.fl (quart_fits b3)) (sound d3)
  ·exact painted c H b1 b2 b3 b4 b5 h1 h2 (h3 (.inr ⟨by lia, by lia, d2.symm⟩)) (fun h => absurd h hz) (fun q_ => rfl) (fun q_ h => absurd h hl) (fun q_ q_ => ⟨rfl, d7⟩) (fun h => absurd h hv) (fun q_ => rfl) (EqV.fl (by omega)) (EqV.fl (quart_fits b3)) (sound d5)
end
end
theorem fn_bisect_right (c : C1) (H : List HObj) {n lo hi r : Nat} {A X key : V} {l : List V} {lt : Nat → Bool} (hl : Lsy H A l) (hlen : l.length < 2 ^ 40) (hk : Kp c.ct key) (hkn : ∀ (w : Wd) x, VRel w key x → (x == Value.none) = false) (hhi : hi ≤ l.length) (hr1 : lo ≤ r) (hr2 : r ≤ hi)
  (ask : ∀ i v, l[i]? = some v → lo ≤ i → i < hi → ∃ kv, Fn c.ct n key [v] [] H H kv ∧ Cmp c.ct n .Lt X kv H (lt i)) (h1 : ∀ i, lo ≤ i → i < r → lt i = false) (h2 : ∀ i, r ≤ i → i < hi → lt i = true) : Fn c.ct (n + 1) (.val (.ref 56)) [A, X, .int lo, .int hi] [("key", key)] H H (.int r) := by
 have cutT : ∀ i, lt i = true → i < hi → lo ≤ i → r ≤ i := fun i q q_ q3 => by
  rcases Nat.lt_or_ge i r with z | z
  ·rw [h1 i q3 z] at q; cases q
  ·exact z
 have cutF : ∀ i, lo ≤ i → i < hi → lt i = false → i + 1 ≤ r := fun i q1 q2 q => by
  rcases Nat.lt_or_ge i r with z | z
  ·exact z
  ·rw [h2 i z q2] at q; cases q
 refine' fnOf (ns := ["a", "x", "lo", "hi", "key"]) (vs := [A, X, .int lo, .int hi, key]) (o := .ret (.int r) H) ?ho ?hb ?hst ?hcd ?hns ?hnd ?hbind ?hbody ?hfin
 walk_at "t_of"
 case hbind => exact bind41 fun q_ q_ q_ q_ q_ => Looks.of_peek c.X (by kernel_rfl)
 case hbody =>
  intro env hS; dsimp only at hS
  exact (Ex.cons (Es.ifFb (Tst.cmp (Ev.loc rfl) Ev.int (by exact Cmp.ltI)) (by simp) Ex.nil)
 (Ex.cons (Es.ifFb (Tst.cmp (Ev.loc rfl) Ev.none (Cmp.isNone (by (intro w x r; cases r; rfl)))) (by rfl) Ex.nil)
 (Ex.cons (Es.ifFb (Tst.cmp (Ev.loc rfl) Ev.none (Cmp.isNone (b := false) hkn)) (by rfl) (Ex.one (Es.while (Wh.weak (subs_cons rfl (subs_cons rfl (subs_cons rfl (subs_cons rfl (subs_cons rfl subs_nil))))) (Wh.bis (fun a b => [("lo", .int (a : Int)), ("hi", .int (b : Int)), ("a", A), ("x", X), ("key", key)]) (lo0 := lo) (hi0 := hi) (r := r) (fun a b => (Tst.cmp (Ev.loc rfl) (Ev.loc rfl) (by exact Cmp.ltI))) (fun a b hab q1 q2 q3 q4 => by
   obtain ⟨v, hv⟩ : ∃ v, l[(((a + b) / 2 : Nat) : Int).toNat]? = some v := ⟨_, List.getElem?_eq_getElem (by lia)⟩
   obtain ⟨kv, hf, hc⟩ := ask ((a + b) / 2) v hv (by lia) (by lia)
   by_cases q : lt ((a + b) / 2) = true
   ·exact ⟨_, a, (a + b) / 2, (Ex.cons (Es.assign (Ev.bin (Ev.bin (Ev.loc rfl) (Ev.loc rfl) Bin.addInt) Ev.int (Bin.half rfl)) (il hS rfl) rfl)
 (Ex.one (Es.ifTb (Tst.cmp (Ev.loc rfl) (Ev.call (Ev.loc rfl) (EvA.args (EvL.cons (Ev.sub (Ev.loc rfl) (Ev.loc rfl) (Itm.lst hl (by exact Int.ofNat_nonneg _) (by lia) hv (fun q_ q_ => rfl))) EvL.nil)) (by exact hf) hk) hc) (by exact q) (Ex.one (Es.assign (Ev.loc rfl) (il hS rfl) rfl))))), (subs_cons rfl (subs_cons rfl (subs_cons rfl (subs_cons rfl (subs_cons rfl subs_nil))))), by exact Nat.le_refl _, by lia, by omega, by have := cutT _ q (by lia) (by lia); omega, by omega⟩
   ·rw [Bool.not_eq_true] at q
    exact ⟨_, (a + b) / 2 + 1, b, (Ex.cons (Es.assign (Ev.bin (Ev.bin (Ev.loc rfl) (Ev.loc rfl) Bin.addInt) Ev.int (Bin.half rfl)) (il hS rfl) rfl)
 (Ex.one (Es.ifFb (Tst.cmp (Ev.loc rfl) (Ev.call (Ev.loc rfl) (EvA.args (EvL.cons (Ev.sub (Ev.loc rfl) (Ev.loc rfl) (Itm.lst hl (by lia) (by lia) hv (fun q_ q_ => rfl))) EvL.nil)) (by exact hf) hk) hc) (by exact q) (Ex.one (Es.assign (Ev.bin (Ev.loc rfl) Ev.int (Bin.addE (r := (((a + b) / 2 + 1 : Nat) : Int)) (by rfl))) (il hS rfl) rfl))))), (subs_cons rfl (subs_cons rfl (subs_cons rfl (subs_cons rfl (subs_cons rfl subs_nil))))), by lia, by lia, by have := cutF _ (by lia) (by lia) q; omega, by omega, by omega⟩) (hi - lo) lo hi (Nat.le_refl _) (Nat.le_refl _) (Nat.le_refl _) hr1 hr2)))))
 (Ex.stop (Es.ret (Ev.loc rfl)) (by intro _ _ h; cases h)))))
 case hfin => first | exact Fin.ret | exact Fin.next
theorem fn_bisect_right_none (c : C1) (H : List HObj) {n lo hi r : Nat} {A X key : V} {l : List V} {lt : Nat → Bool} (hl : Lsy H A l) (hlen : l.length < 2 ^ 40) (hk : Kp c.ct key) (hkn : ∀ (w : Wd) x, VRel w key x → (x == Value.none) = false) (hhi : hi = l.length) (hr1 : lo ≤ r) (hr2 : r ≤ hi)
  (ask : ∀ i v, l[i]? = some v → lo ≤ i → i < hi → ∃ kv, Fn c.ct n key [v] [] H H kv ∧ Cmp c.ct n .Lt X kv H (lt i)) (h1 : ∀ i, lo ≤ i → i < r → lt i = false) (h2 : ∀ i, r ≤ i → i < hi → lt i = true) : Fn c.ct (n + 1) (.val (.ref 56)) [A, X, .int lo, .none] [("key", key)] H H (.int r) := by
 have cutT : ∀ i, lt i = true → i < hi → lo ≤ i → r ≤ i := fun i q q_ q3 => by
  rcases Nat.lt_or_ge i r with z | z
  ·rw [h1 i q3 z] at q; cases q
  ·exact z
 have cutF : ∀ i, lo ≤ i → i < hi → lt i = false → i + 1 ≤ r := fun i q1 q2 q => by
  rcases Nat.lt_or_ge i r with z | z
  ·exact z
  ·rw [h2 i z q2] at q; cases q
 subst hhi
 refine' fnOf (ns := ["a", "x", "lo", "hi", "key"]) (vs := [A, X, .int lo, .none, key]) (o := .ret (.int r) H) ?ho ?hb ?hst ?hcd ?hns ?hnd ?hbind ?hbody ?hfin
 walk_at "t_of"
 case hbind => exact bind41 fun q_ q_ q_ q_ q_ => Looks.of_peek c.X (by kernel_rfl)
 case hbody =>
  intro env hS; dsimp only at hS
  exact (Ex.cons (Es.ifFb (Tst.cmp (Ev.loc rfl) Ev.int (by exact Cmp.ltI)) (by simp) Ex.nil)
 (Ex.cons (Es.ifTb (Tst.cmp (Ev.loc rfl) Ev.none (Cmp.isNone (by (intro w x r; cases r; rfl)))) (by rfl) (Ex.one (Es.assign (Ev.call (gB (g_len _) (kind_of hS rfl)) (EvA.args (EvL.cons (Ev.loc rfl) EvL.nil)) (by exact Fn.len hl (by omega)) Kp.blt) (il hS rfl) rfl)))
 (Ex.cons (Es.ifFb (Tst.cmp (Ev.loc rfl) Ev.none (Cmp.isNone (b := false) hkn)) (by rfl) (Ex.one (Es.while (Wh.weak (subs_cons rfl (subs_cons rfl (subs_cons rfl (subs_cons rfl (subs_cons rfl subs_nil))))) (Wh.bis (fun a b => [("lo", .int (a : Int)), ("hi", .int (b : Int)), ("a", A), ("x", X), ("key", key)]) (lo0 := lo) (hi0 := l.length) (r := r) (fun a b => (Tst.cmp (Ev.loc rfl) (Ev.loc rfl) (by exact Cmp.ltI))) (fun a b hab q1 q2 q3 q4 => by
   obtain ⟨v, hv⟩ : ∃ v, l[(((a + b) / 2 : Nat) : Int).toNat]? = some v := ⟨_, List.getElem?_eq_getElem (by lia)⟩
   obtain ⟨kv, hf, hc⟩ := ask ((a + b) / 2) v hv (by lia) (by lia)
   by_cases q : lt ((a + b) / 2) = true
   ·exact ⟨_, a, (a + b) / 2, (Ex.cons (Es.assign (Ev.bin (Ev.bin (Ev.loc rfl) (Ev.loc rfl) Bin.addInt) Ev.int (Bin.half rfl)) (il hS rfl) rfl)
 (Ex.one (Es.ifTb (Tst.cmp (Ev.loc rfl) (Ev.call (Ev.loc rfl) (EvA.args (EvL.cons (Ev.sub (Ev.loc rfl) (Ev.loc rfl) (Itm.lst hl (by lia) (by lia) hv (fun q_ q_ => rfl))) EvL.nil)) (by exact hf) hk) hc) (by exact q) (Ex.one (Es.assign (Ev.loc rfl) (il hS rfl) rfl))))), (subs_cons rfl (subs_cons rfl (subs_cons rfl (subs_cons rfl (subs_cons rfl subs_nil))))), by lia, by lia, by lia, by have := cutT _ q (by lia) (by lia); lia, by lia⟩
   ·rw [Bool.not_eq_true] at q
    exact ⟨_, (a + b) / 2 + 1, b, (Ex.cons (Es.assign (Ev.bin (Ev.bin (Ev.loc rfl) (Ev.loc rfl) Bin.addInt) Ev.int (Bin.half rfl)) (il hS rfl) rfl)
 (Ex.one (Es.ifFb (Tst.cmp (Ev.loc rfl) (Ev.call (Ev.loc rfl) (EvA.args (EvL.cons (Ev.sub (Ev.loc rfl) (Ev.loc rfl) (Itm.lst hl (by lia) (by lia) hv (fun q_ q_ => rfl))) EvL.nil)) (by exact hf) hk) hc) (by exact q) (Ex.one (Es.assign (Ev.bin (Ev.loc rfl) Ev.int (Bin.addE (r := (((a + b) / 2 + 1 : Nat) : Int)) (by lia))) (il hS rfl) rfl))))), (subs_cons rfl (subs_cons rfl (subs_cons rfl (subs_cons rfl (subs_cons rfl subs_nil))))), by lia, by lia, by have := cutF _ (by lia) (by lia) q; lia, by lia, by lia⟩) (l.length - lo) lo l.length (Nat.le_refl _) (Nat.le_refl _) (Nat.le_refl _) hr1 hr2)))))
 (Ex.stop (Es.ret (Ev.loc rfl)) (by intro _ _ h; cases h)))))
 case hfin => first | exact Fin.ret | exact Fin.next
theorem fn_bisect_left (c : C1) (H : List HObj) {n lo hi r : Nat} {A X key : V} {l : List V} {lt : Nat → Bool} (hl : Lsy H A l) (hlen : l.length < 2 ^ 40) (hk : Kp c.ct key) (hkn : ∀ (w : Wd) x, VRel w key x → (x == Value.none) = false) (hhi : hi ≤ l.length) (hr1 : lo ≤ r) (hr2 : r ≤ hi)
  (ask : ∀ i v, l[i]? = some v → lo ≤ i → i < hi → ∃ kv, Fn c.ct n key [v] [] H H kv ∧ Cmp c.ct n .Lt kv X H (lt i)) (h1 : ∀ i, lo ≤ i → i < r → lt i = true) (h2 : ∀ i, r ≤ i → i < hi → lt i = false) : Fn c.ct (n + 1) (.val (.ref 65)) [A, X, .int lo, .int hi] [("key", key)] H H (.int r) := by
 have cutT : ∀ i, lo ≤ i → i < hi → lt i = true → i + 1 ≤ r := fun i q1 q2 q => by
  rcases Nat.lt_or_ge i r with z | z
  ·exact z
  ·rw [h2 i z q2] at q; cases q
 have cutF : ∀ i, lt i = false → i < hi → lo ≤ i → r ≤ i := fun i q q_ q3 => by
  rcases Nat.lt_or_ge i r with z | z
  ·rw [h1 i q3 z] at q; cases q
  ·exact z
 refine' fnOf (ns := ["a", "x", "lo", "hi", "key"]) (vs := [A, X, .int lo, .int hi, key]) (o := .ret (.int r) H) ?ho ?hb ?hst ?hcd ?hns ?hnd ?hbind ?hbody ?hfin
 walk_at "t_of"
 case hbind => exact bind41 fun q_ q_ q_ q_ q_ => Looks.of_peek c.X (by kernel_rfl)
 case hbody =>
  intro env hS; dsimp only at hS
  exact (Ex.cons (Es.ifFb (Tst.cmp (Ev.loc rfl) Ev.int (by exact Cmp.ltI)) (by simp) Ex.nil)
 (Ex.cons (Es.ifFb (Tst.cmp (Ev.loc rfl) Ev.none (Cmp.isNone (by (intro w x r; cases r; rfl)))) (by rfl) Ex.nil)
 (Ex.cons (Es.ifFb (Tst.cmp (Ev.loc rfl) Ev.none (Cmp.isNone (b := false) hkn)) (by rfl) (Ex.one (Es.while (Wh.weak (subs_cons rfl (subs_cons rfl (subs_cons rfl (subs_cons rfl (subs_cons rfl subs_nil))))) (Wh.bis (fun a b => [("lo", .int (a : Int)), ("hi", .int (b : Int)), ("a", A), ("x", X), ("key", key)]) (lo0 := lo) (hi0 := hi) (r := r) (fun a b => (Tst.cmp (Ev.loc rfl) (Ev.loc rfl) (by exact Cmp.ltI))) (fun a b hab q1 q2 q3 q4 => by
   obtain ⟨v, hv⟩ : ∃ v, l[(((a + b) / 2 : Nat) : Int).toNat]? = some v := ⟨_, List.getElem?_eq_getElem (by lia)⟩
   obtain ⟨kv, hf, hc⟩ := ask ((a + b) / 2) v hv (by lia) (by lia)
   by_cases q : lt ((a + b) / 2) = true
   ·exact ⟨_, (a + b) / 2 + 1, b, (Ex.cons (Es.assign (Ev.bin (Ev.bin (Ev.loc rfl) (Ev.loc rfl) Bin.addInt) Ev.int (Bin.half rfl)) (il hS rfl) rfl)
 (Ex.one (Es.ifTb (Tst.cmp (Ev.call (Ev.loc rfl) (EvA.args (EvL.cons (Ev.sub (Ev.loc rfl) (Ev.loc rfl) (Itm.lst hl (by lia) (by lia) hv (fun q_ q_ => rfl))) EvL.nil)) (by exact hf) hk) (Ev.loc rfl) hc) (by exact q) (Ex.one (Es.assign (Ev.bin (Ev.loc rfl) Ev.int (Bin.addE (r := (((a + b) / 2 + 1 : Nat) : Int)) (by lia))) (il hS rfl) rfl))))), (subs_cons rfl (subs_cons rfl (subs_cons rfl (subs_cons rfl (subs_cons rfl subs_nil))))), by lia, by lia, by have := cutT _ (by lia) (by lia) q; lia, by lia, by lia⟩
   ·rw [Bool.not_eq_true] at q
    exact ⟨_, a, (a + b) / 2, (Ex.cons (Es.assign (Ev.bin (Ev.bin (Ev.loc rfl) (Ev.loc rfl) Bin.addInt) Ev.int (Bin.half rfl)) (il hS rfl) rfl)
 (Ex.one (Es.ifFb (Tst.cmp (Ev.call (Ev.loc rfl) (EvA.args (EvL.cons (Ev.sub (Ev.loc rfl) (Ev.loc rfl) (Itm.lst hl (by lia) (by lia) hv (fun q_ q_ => rfl))) EvL.nil)) (by exact hf) hk) (Ev.loc rfl) hc) (by exact q) (Ex.one (Es.assign (Ev.loc rfl) (il hS rfl) rfl))))), (subs_cons rfl (subs_cons rfl (subs_cons rfl (subs_cons rfl (subs_cons rfl subs_nil))))), by lia, by lia, by lia, by have := cutF _ q (by lia) (by lia); lia, by lia⟩) (hi - lo) lo hi (Nat.le_refl _) (Nat.le_refl _) (Nat.le_refl _) hr1 hr2)))))
 (Ex.stop (Es.ret (Ev.loc rfl)) (by intro _ _ h; cases h)))))
 case hfin => first | exact Fin.ret | exact Fin.next
noncomputable def insTok (P : Params) : Tok := match (hd01.heap_39 P).lookup 39 with
 | some ⟨_, _, .seq vs _, _⟩ => (match vs.toList with | .int _ t :: _ => t | _ => 0)
 | _ => 0
theorem fn_insort (c : C1) (H : List HObj) {n lo hi r j : Nat} {X KX key : V} {l : List V} {lt : Nat → Bool} (hH : H[j]? = some (.list l)) (hlen : l.length < 2 ^ 24) (hd : X.dat = true) (hk : Kp c.ct key) (hkn : ∀ (w : Wd) x, VRel w key x → (x == Value.none) = false) (hhi : hi ≤ l.length) (hr1 : lo ≤ r) (hr2 : r ≤ hi)
  (hx : Fn c.ct n key [X] [] H H KX) (ask : ∀ i v, l[i]? = some v → lo ≤ i → i < hi → ∃ kv, Fn c.ct n key [v] [] H H kv ∧ Cmp c.ct n .Lt KX kv H (lt i)) (h1 : ∀ i, lo ≤ i → i < r → lt i = false) (h2 : ∀ i, r ≤ i → i < hi → lt i = true) : Fn c.ct (n + 2) (.val (.ref 47)) [.ref j, X, .int lo, .int hi] [("key", key)] H (H.set j (.list (l.take r ++ X :: l.drop r))) .none := by
 refine' fnOf (ns := ["a", "x", "lo", "hi", "key"]) (vs := [.ref j, X, .int lo, .int hi, key]) (o := .next (("lo", .int r) :: [("a", .ref j), ("x", X), ("lo", .int lo), ("hi", .int hi), ("key", key)]) (H.set j (.list (l.take r ++ X :: l.drop r)))) ?ho ?hb ?hst ?hcd ?hns ?hnd ?hbind ?hbody ?hfin
 walk_at "t_of"
 case hbind => exact bind41 fun q_ q_ q_ q_ q_ => Looks.of_peek c.X (by kernel_rfl)
 case hbody =>
  intro env hS; dsimp only at hS
  exact (Ex.cons (Es.ifFb (Tst.cmp (Ev.loc rfl) Ev.none (Cmp.isNone (b := false) hkn)) (by rfl) (Ex.one (Es.assign (Ev.call (gV (g_bisect_right _) (kind_of hS rfl)) (EvA.kw (kv := [("key", _)]) (EvL.cons (Ev.loc rfl) (EvL.cons (Ev.call (Ev.loc rfl) (EvA.args (EvL.cons (Ev.loc rfl) EvL.nil)) (by exact hx.le (by exact Nat.le_add_right _ _)) hk) (EvL.cons (Ev.loc rfl) (EvL.cons (Ev.loc rfl) EvL.nil)))) (EvK.cons (Ev.loc rfl) EvK.nil) (fun q_ => rfl) (fun q_ => rfl) (fun q_ => rfl)) (by exact fn_bisect_right c H (.ref hH) (Nat.lt_of_lt_of_le hlen (by decide)) hk hkn hhi hr1 hr2 ask h1 h2) (kp_bisect_right _)) (il hS rfl) rfl)))
 (Ex.one (Es.expr (Ev.meth (Ev.loc rfl) (EvL.cons (Ev.loc rfl) (EvL.cons (Ev.loc rfl) EvL.nil)) (by exact Mth.insert hH hd (by exact Nat.le_trans (by assumption) (by assumption)) (Nat.le_trans (Nat.le_of_lt hlen) (by decide))) (Typ.lst (Lsy.ref (by with_reducible assumption))) rfl rfl rfl rfl (fun q_ q_ q_ q_ q_ h => Calls.evalArgs_plain h)) (in_of hS (by intro e he; cases e; dsimp only at he; subst he; rfl)) rfl)))
 case hfin => first | exact Fin.ret | exact Fin.next
theorem fn_insort_all (c : C1) (H : List HObj) {n lo hi r j : Nat} {X KX key : V} {l : List V} {lt : Nat → Bool} (hH : H[j]? = some (.list l)) (hlen : l.length < 2 ^ 24) (hd : X.dat = true) (hk : Kp c.ct key) (hkn : ∀ (w : Wd) x, VRel w key x → (x == Value.none) = false) (hhi : hi = l.length) (hlo : lo = 0) (hr1 : lo ≤ r) (hr2 : r ≤ hi)
  (hx : Fn c.ct n key [X] [] H H KX) (ask : ∀ i v, l[i]? = some v → lo ≤ i → i < hi → ∃ kv, Fn c.ct n key [v] [] H H kv ∧ Cmp c.ct n .Lt KX kv H (lt i)) (h1 : ∀ i, lo ≤ i → i < r → lt i = false) (h2 : ∀ i, r ≤ i → i < hi → lt i = true) : Fn c.ct (n + 2) (.val (.ref 47)) [.ref j, X] [("key", key)] H (H.set j (.list (l.take r ++ X :: l.drop r))) .none := by
 subst hlo
 refine' fnOf (ns := ["a", "x", "lo", "hi", "key"]) (vs := [.ref j, X, .int ((0 : Nat) : Int), .none, key]) (o := .next (("lo", .int r) :: [("a", .ref j), ("x", X), ("lo", .int ((0 : Nat) : Int)), ("hi", .none), ("key", key)]) (H.set j (.list (l.take r ++ X :: l.drop r)))) ?ho ?hb ?hst ?hcd ?hns ?hnd ?hbind ?hbody ?hfin
 walk_at "t_of"
 case hbind => intro w xs ks rx rk; obtain ⟨_, _, rfl, h1, h2⟩ := rx.inv2; obtain ⟨_, rfl, h5⟩ := VRels.inv1 rk; exact ⟨[_, _, .int 0 (insTok c.w.params), .none, _], .cons h1 (.cons h2 (.cons (.int _ _) (.cons .none (.cons h5 .nil)))), Looks.of_peek c.X (by kernel_rfl)⟩
 case hbody =>
  intro env hS; dsimp only at hS
  exact (Ex.cons (Es.ifFb (Tst.cmp (Ev.loc rfl) Ev.none (Cmp.isNone (b := false) hkn)) (by rfl) (Ex.one (Es.assign (Ev.call (gV (g_bisect_right _) (kind_of hS rfl)) (EvA.kw (kv := [("key", _)]) (EvL.cons (Ev.loc rfl) (EvL.cons (Ev.call (Ev.loc rfl) (EvA.args (EvL.cons (Ev.loc rfl) EvL.nil)) (by exact hx.le (by exact Nat.le_add_right _ _)) hk) (EvL.cons (Ev.loc rfl) (EvL.cons (Ev.loc rfl) EvL.nil)))) (EvK.cons (Ev.loc rfl) EvK.nil) (fun q_ => rfl) (fun q_ => rfl) (fun q_ => rfl)) (by exact fn_bisect_right_none c H (.ref hH) (Nat.lt_of_lt_of_le hlen (by decide)) hk hkn hhi hr1 hr2 ask h1 h2) (kp_bisect_right _)) (il hS rfl) rfl)))
 (Ex.one (Es.expr (Ev.meth (Ev.loc rfl) (EvL.cons (Ev.loc rfl) (EvL.cons (Ev.loc rfl) EvL.nil)) (by exact Mth.insert hH hd (by lia) (Nat.le_trans (Nat.le_of_lt hlen) (by decide))) (Typ.lst (Lsy.ref (by with_reducible assumption))) rfl rfl rfl rfl (fun q_ q_ q_ q_ q_ h => Calls.evalArgs_plain h)) (in_of hS (by intro e he; cases e; dsimp only at he; subst he; rfl)) rfl)))
 case hfin => first | exact Fin.ret | exact Fin.next
section
noncomputable def HES (P : Params) : Array DictEntry := match (hd01.heap_39 P).lookup 253 with
 | some ⟨_, _, .dict es _, _⟩ => es
 | _ => #[]
theorem hdr_cls_of {c : C1} {es : Array DictEntry} {n : Nat} {nm q : Str} {bs : List Value} {sn : List Str} {sub : List Value} {ab : Bool} {col : Option Bool} {dd : Option Addr} {k0 k1 k2 k3 k5 : Option Value} {newId : String}
  (h1 : (hd01.heap_39 c.w.params).lookup 254 = some (excClassObj nm q 254 253 bs [.type "object"] true sn sub ab col dd k0 k1 k2 k3 k5 newId)) (h2 : (hd01.heap_39 c.w.params).lookup 253 = some ⟨.type "dict", none, .dict es n, #[]⟩) (h3 : strKeysB es = true) : Cls c.ct 254 253 (HES c.w.params) := by
 have : HES c.w.params = es := by unfold HES; rw [h2]
 rw [this]
 exact cls_of h1 h2 h3
theorem hdr_cls (c : C1) : Cls c.ct 254 253 (HES c.w.params) := by
 refine' hdr_cls_of ?k1 ?k2 ?k3
 case k1 => k_is
 case k2 => k_is
 case k3 => kernel_rfl
theorem hdr_ga (c : C1) : nsFind (HES c.w.params) "__getattribute__" = none := by kernel_rfl
theorem hdr_gat (c : C1) : nsFind (HES c.w.params) "__getattr__" = none := by kernel_rfl
theorem hdr_sa (c : C1) : nsFind (HES c.w.params) "__setattr__" = none := by kernel_rfl
theorem hdr_h (c : C1) : nsFind (HES c.w.params) "_headers" = none := by kernel_rfl
theorem obj_h : typeLookup (.type "object") "_headers" = pure none := by rw [typeLookup_type, builtinLookup_eq_fast]; kernel_rfl
noncomputable abbrev HX : Str := "_headers"
structure HM (c : C1) (name : Str) (f : Addr) : Prop where
 find : nsFind (HES c.w.params) name = some (.ref f)
 obj : ∃ fo, (hd01.heap_39 c.w.params).lookup f = some fo ∧ fo.cls = .type "function"
 keep : keepIn (hd01.heap_39 c.w.params) (.ref f) = true
 top : typeLookup (.type "object") name = pure none
 ne : ¬ name = HX
theorem HM.of {c : C1} {name : Str} {f : Addr} {fo : Obj} (h1 : nsFind (HES c.w.params) name = some (.ref f)) (h2 : (hd01.heap_39 c.w.params).lookup f = some fo) (h3 : fo.cls = .type "function") (h4 : keepIn (hd01.heap_39 c.w.params) (.ref f) = true) (h5 : typeLookup (.type "object") name = pure none) (h6 : ¬ name = HX) : HM c name f := ⟨h1, ⟨_, h2, h3⟩, h4, h5, h6⟩
theorem hm_conv (c : C1) : HM c "_convert_string_type" 155 := by
 refine' HM.of ?k1 ?k2 ?k3 ?k4 ?k5 ?k6
 case k1 => kernel_rfl
 case k2 => k_is
 case k3 => rfl
 case k4 => k_is
 case k5 => rw [typeLookup_type, builtinLookup_eq_fast]; kernel_rfl
 case k6 => decide
theorem hm_items (c : C1) : HM c "items" 218 := by
 refine' HM.of ?k1 ?k2 ?k3 ?k4 ?k5 ?k6
 case k1 => kernel_rfl
 case k2 => k_is
 case k3 => rfl
 case k4 => k_is
 case k5 => rw [typeLookup_type, builtinLookup_eq_fast]; kernel_rfl
 case k6 => decide
theorem hm_get (c : C1) : HM c "get" 201 := by
 refine' HM.of ?k1 ?k2 ?k3 ?k4 ?k5 ?k6
 case k1 => kernel_rfl
 case k2 => k_is
 case k3 => rfl
 case k4 => k_is
 case k5 => rw [typeLookup_type, builtinLookup_eq_fast]; kernel_rfl
 case k6 => decide
theorem hm_get_all (c : C1) : HM c "get_all" 193 := by
 refine' HM.of ?k1 ?k2 ?k3 ?k4 ?k5 ?k6
 case k1 => kernel_rfl
 case k2 => k_is
 case k3 => rfl
 case k4 => k_is
 case k5 => rw [typeLookup_type, builtinLookup_eq_fast]; kernel_rfl
 case k6 => decide
theorem hm_add_header (c : C1) : HM c "add_header" 251 := by
 refine' HM.of ?k1 ?k2 ?k3 ?k4 ?k5 ?k6
 case k1 => kernel_rfl
 case k2 => k_is
 case k3 => rfl
 case k4 => k_is
 case k5 => rw [typeLookup_type, builtinLookup_eq_fast]; kernel_rfl
 case k6 => decide
section
variable {c : C1} {n : Nat} {env : Env} {σ σ' σ1 : Loc} {H H' H0 H1 H2 H3 : List HObj} {pos p0 pos' apos p : Pos} {k : Nat} {x y name id : Str} {v v1 v2 v3 : V} {e e1 e2 e3 : PySem.Expr} {i j : Nat} {f : Addr}
theorem Ev.hdr {esx : List PySem.Expr} {ks : List Keyword} {vs : List V} {kv : List (Str × V)} {pl : Sem Bool} (m : HM c name f) (h : Ev c.ct n env σ H (.Name id p) H1 (.sem (instA 254 j))) (hj : H1[j]? = some (.sem (ownA HX i)))
  (ha : EvA c.ct n env σ H1 pos esx ks H2 vs kv) (hc : Fn c.ct n (.val (.ref f)) (.sem (instA 254 j) :: vs) kv H2 H3 v)
  (hp : ((backTo pos (starEach esx env)).any (·.1) || (backToKw pos (keywordEach ks env)).any (·.1.isNone)) = false)
  (he : eval (.Call (.Attribute (.Name id p) name apos) esx ks pos) env = (do
   let ov ← eval (.Name id p) env
   standAt apos.atName
   let (f, first) ← holding [ov] (getMethod ov name pl)
   callWith pos f first (backTo pos (starEach esx env)) (backToKw pos (keywordEach ks env)))) :
  Ev c.ct n env σ H (.Call (.Attribute (.Name id p) name apos) esx ks pos) H3 v := by
 obtain ⟨fo, h1, h2⟩ := m.obj
 exact Ev.inst (hdr_cls c) h hj m.ne (hdr_ga c) (hdr_gat c) m.find h1 h2 m.top ha hc m.keep hp he
theorem Ev.hdrs (h : Ev c.ct n env σ H (.Name id p) H1 (.sem (instA 254 j))) (hj : H1[j]? = some (.sem (ownA HX i))) : Ev c.ct n env σ H (.Attribute (.Name id p) HX pos) H1 (.ref i) :=
 Ev.attr (hdr_cls c) h hj (hdr_ga c) (hdr_h c) obj_h
end
theorem patN_of {c : C1} {a b : Value} {t : Tok} {d e : Value} {ct : Addr} {t' : Tok} {q : Addr} {vs : Array Value} {m : Nat} {code : Array Nat} (h1 : (hd01.heap_39 c.w.params).lookup q = some ⟨.type "re.Pattern", none, .fields #[a, b, .int 0 t, d, e, .ref ct, .int 0 t'], #[]⟩)
  (h2 : (hd01.heap_39 c.w.params).lookup ct = some ⟨.type "tuple", none, .seq vs m, #[]⟩) (h3 : (vs.map Builtin.Re.reRawOf).map (·.toNat) = code) (h4 : ((match Sre.ops[code.getD 0 0]? with | some .INFO => true | _ => false) && code.getD 2 0 == 4) = true) : ∃ ct, Pat c.ct q ct code := ⟨ct, ⟨_, _, h2, h3⟩, ⟨_, _, _, _, _, _, h1⟩, h4⟩
theorem patN (c : C1) : ∃ ct, Pat c.ct 120 ct codeN := by
 refine' patN_of ?k1 ?k2 ?k3 ?k4
 case k1 => k_is
 case k2 => k_is
 case k3 => kernel_rfl
 case k4 => kernel_rfl
theorem patV (c : C1) : ∃ ct, Pat c.ct 125 ct codeV := by
 refine' patN_of ?k1 ?k2 ?k3 ?k4
 case k1 => k_is
 case k2 => k_is
 case k3 => kernel_rfl
 case k4 => kernel_rfl
end
noncomputable def Plain (x : Str) : Prop := (∀ c ∈ x.cps, plain c) ∧ x.length ≤ 100000
theorem Plain.lt {x : Str} (h : Plain x) : x.length < 2 ^ 60 := Nat.lt_of_le_of_lt h.2 (by decide)
theorem conv_name (c : C1) (H : List HObj) {S : V} {x : Str} (hx : Plain x) : Fn c.ct 3 (.val (.ref 155)) [S, .str x] [("name", .bool true)] H H (.str x) := by
 obtain ⟨_, hp⟩ := patN c
 refine' fnOf (ns := ["self", "value", "name"]) (vs := [S, .str x, .bool true]) (o := .ret (.str x) H) ?ho ?hb ?hst ?hcd ?hns ?hnd ?hbind ?hbody ?hfin
 walk_at "t_of"
 case hbind => exact bind21 fun q_ q_ q_ => Looks.of_peek c.X (by kernel_rfl)
 case hbody =>
  intro env hS; dsimp only at hS
  exact (Ex.stop (Es.ifTb (Tst.cmp (Ev.call (gB (g_type _) (kind_of hS rfl)) (EvA.args (EvL.cons (Ev.loc rfl) EvL.nil)) (by exact Fn.typeOf Typ.str (by decide)) Kp.typ) (gB (g_str _) (kind_of hS rfl)) Cmp.isT) (by decide) (Ex.cons (Es.assign (Ev.ifTb (Tst.val (Ev.loc rfl) Tru.bool rfl) (by rfl) (gV (g_name_disallowed_re _) (kind_of hS rfl))) (il hS rfl) rfl)
 (Ex.cons (Es.ifFb (Tst.val (Ev.meth (Ev.loc rfl) (EvL.cons (Ev.loc rfl) EvL.nil) (by exact Mth.search0 hp (fun c hc => missN (hx.1 c hc)) hx.lt) hp.typ rfl rfl rfl rfl (fun q_ q_ q_ q_ q_ h => Calls.evalArgs_plain h)) Tru.none rfl) (by rfl) Ex.nil)
 (Ex.stop (Es.ret (Ev.loc rfl)) (by intro _ _ h; cases h))))) (by intro _ _ h; cases h))
 case hfin => first | exact Fin.ret | exact Fin.next
theorem conv_value (c : C1) (H : List HObj) {S : V} {x : Str} (hx : Plain x) : Fn c.ct 3 (.val (.ref 155)) [S, .str x] [("name", .bool false)] H H (.str x) := by
 obtain ⟨_, hp⟩ := patV c
 refine' fnOf (ns := ["self", "value", "name"]) (vs := [S, .str x, .bool false]) (o := .ret (.str x) H) ?ho ?hb ?hst ?hcd ?hns ?hnd ?hbind ?hbody ?hfin
 walk_at "t_of"
 case hbind => exact bind21 fun q_ q_ q_ => Looks.of_peek c.X (by kernel_rfl)
 case hbody =>
  intro env hS; dsimp only at hS
  exact (Ex.stop (Es.ifTb (Tst.cmp (Ev.call (gB (g_type _) (kind_of hS rfl)) (EvA.args (EvL.cons (Ev.loc rfl) EvL.nil)) (by exact Fn.typeOf Typ.str (by decide)) Kp.typ) (gB (g_str _) (kind_of hS rfl)) Cmp.isT) (by decide) (Ex.cons (Es.assign (Ev.ifFb (Tst.val (Ev.loc rfl) Tru.bool rfl) (by rfl) (gV (g_value_disallowed_re _) (kind_of hS rfl))) (il hS rfl) rfl)
 (Ex.cons (Es.ifFb (Tst.val (Ev.meth (Ev.loc rfl) (EvL.cons (Ev.loc rfl) EvL.nil) (by exact Mth.search0 hp (fun c hc => missV (hx.1 c hc)) hx.lt) hp.typ rfl rfl rfl rfl (fun q_ q_ q_ q_ q_ h => Calls.evalArgs_plain h)) Tru.none rfl) (by rfl) Ex.nil)
 (Ex.stop (Es.ret (Ev.loc rfl)) (by intro _ _ h; cases h))))) (by intro _ _ h; cases h))
 case hfin => first | exact Fin.ret | exact Fin.next
theorem fnCOf {c : C1} {n : Nat} {H H' : List HObj} {v : V} {o : Out} {f : Addr} {fd : FuncData} {oc : Value} {od : Option Addr} {osl : Array (Option Value)} {body : List PySem.Stmt} {args : List V} {kw : List (Str × V)} {ns : List Str} {vs : List V}
  (ho : (hd01.heap_39 c.w.params).lookup f = some ⟨oc, od, .func fd, osl⟩) (hb : fd.body = .stmts body) (hst : fdOk fd = true) (hcd : codeIn (hd01.heap_39 c.w.params) fd.code fd.qualname = true) (hns : namesOk fd ns = true) (hnd : ns.Nodup)
  (hbind : Binds c.ct fd args kw ns vs) (hbody : ∀ env : Env, env.scope = fd.scope → Ex c.ct n env (ns.zip vs) H body o) (hfin : Fin o v H') : FnC c.ct (n + 1) (.val (.ref f)) args kw H H' v := FnC.ofDef ho hb hst hcd hns hnd (Binds.wide hbind) hbody hfin
theorem fnXOf {c : C1} {n : Nat} {H H1 H' : List HObj} {v : V} {o : Out} {f : Addr} {fd : FuncData} {oc : Value} {od : Option Addr} {osl : Array (Option Value)} {body : List PySem.Stmt} {args : List V} {kw : List (Str × V)} {ns : List Str} {vs : List V}
  (ho : (hd01.heap_39 c.w.params).lookup f = some ⟨oc, od, .func fd, osl⟩) (hb : fd.body = .stmts body) (hst : fdOk fd = true) (hcd : codeIn (hd01.heap_39 c.w.params) fd.code fd.qualname = true) (hns : namesOk fd ns = true) (hnd : ns.Nodup)
  (hbind : BindsX c.ct fd args kw ns vs H H1) (hbody : ∀ env : Env, env.scope = fd.scope → Ex c.ct n env (ns.zip vs) H1 body o) (hfin : Fin o v H') : Fn c.ct (n + 1) (.val (.ref f)) args kw H H' v := (FnC.ofDef ho hb hst hcd hns hnd hbind hbody hfin).fn
noncomputable abbrev HdV (H : List HObj) : V := .sem (instA 254 H.length)
theorem set_bare {H : List HObj} {a b x : HObj} : ((H ++ [a]) ++ [b]).set H.length x = H ++ [x, b] := by
 rw [List.append_assoc, List.set_append_right _ _ (Nat.le_refl _), Nat.sub_self]; rfl
noncomputable def pairsV (l : List (Str × Str)) : List V := l.map fun p => .tup [.str p.1, .str p.2]
theorem hm_make (c : C1) : makesIn (hd01.heap_39 c.w.params) 254 = true := by k_is
theorem hm_init (c : C1) : findIn (hd01.heap_39 c.w.params) (.ref 254) "__init__" = some (some (.ref 148)) := by k_is
theorem hm_itype (c : C1) : typeIn (hd01.heap_39 c.w.params) (.ref 148) = some (.type "function") := by k_is
theorem init_core (c : C1) (H : List HObj) : FnC c.ct 4 (.val (.ref 148)) [HdV H] [] (H ++ [HObj.sem bareA]) (((H ++ [HObj.sem bareA]) ++ [HObj.list []]).set H.length (HObj.sem (ownA HX (H ++ [HObj.sem bareA]).length))) .none := by
 have hl0 : ((H ++ [HObj.sem bareA]) ++ [HObj.list []])[(H ++ [HObj.sem bareA]).length]? = some (.list []) := by simp
 have hb0 : ((H ++ [HObj.sem bareA]) ++ [HObj.list []])[H.length]? = some (.sem bareA) := by simp
 have hl1 : (((H ++ [HObj.sem bareA]) ++ [HObj.list []]).set H.length (HObj.sem (ownA HX (H ++ [HObj.sem bareA]).length)))[(H ++ [HObj.sem bareA]).length]? = some (.list []) := by rw [set_bare]; simp
 refine' fnCOf (ns := ["self", "headers"]) (vs := [HdV H, .none]) (o := .next [("headers", V.ref (H ++ [HObj.sem bareA]).length), ("self", HdV H), ("headers", V.none)] (((H ++ [HObj.sem bareA]) ++ [HObj.list []]).set H.length (HObj.sem (ownA HX (H ++ [HObj.sem bareA]).length)))) ?ho ?hb ?hst ?hcd ?hns ?hnd ?hbind ?hbody ?hfin
 walk_at "t_of"
 case hbind => intro w xs ks rx rk; obtain ⟨_, rfl, h1⟩ := rx.inv1; obtain ⟨_, rfl⟩ := rk.inv; exact ⟨[_, _], .cons h1 (.cons .none .nil), Looks.of_peek c.X (by kernel_rfl)⟩
 case hbody =>
  intro env hS; dsimp only at hS
  exact (Ex.cons (Es.assign (Ev.ifFb (Tst.cmp (Ev.loc rfl) Ev.none (Cmp.isNotNone (b := false) (by (intro w x r; cases r; rfl)))) (by rfl) (Ev.lstT EvL.nil (Nat.le_of_ble_eq_true rfl) (by rfl))) (il hS rfl) rfl)
 (Ex.cons (Es.ifFb (Tst.cmp (Ev.call (gB (g_type _) (kind_of hS rfl)) (EvA.args (EvL.cons (Ev.loc rfl) EvL.nil)) (by exact Fn.typeOf (Typ.lst (Lsy.ref hl0)) (by decide)) Kp.typ) (gB (g_list _) (kind_of hS rfl)) Cmp.isNotT) (by decide) Ex.nil)
 (Ex.cons (Es.attr (hdr_cls _) (Ev.loc rfl) (Ev.loc rfl) hb0 (hdr_sa _) (hdr_h _) obj_h rfl)
 (Ex.one (Es.ifTb (Tst.val Ev.bool Tru.bool rfl) (by rfl) (Ex.one (Es.for (SrcE.of (Ev.loc rfl) (Src.lst (.ref hl1))) rfl (Fo.nil (.ref hl1)) (fun q_ q_ => rfl))))))))
 case hfin => first | exact Fin.ret | exact Fin.next
theorem fn_Headers (c : C1) (H : List HObj) : Fn c.ct 5 (.val (.ref 254)) [] [] H (H ++ [.sem (ownA HX (H.length + 1)), .list []]) (HdV H) := by
 have h := init_core c H
 rw [set_bare] at h
 have e : (H ++ [HObj.sem bareA]).length = H.length + 1 := by simp
 rw [e] at h
 exact Fn.make (hm_make c) (hm_init c) (hm_itype c) h
theorem fn_items0 (c : C1) (H : List HObj) {i j : Nat} {l : List V} (hj : H[j]? = some (.sem (ownA HX i))) (hi : H[i]? = some (.list l)) (hlen : l.length ≤ 16777216) : Fn c.ct 3 (.val (.ref 218)) [.sem (instA 254 j)] [] H H (.lst (pick l none none none)) := by
 refine' fnOf (ns := ["self"]) (vs := [.sem (instA 254 j)]) (o := .ret (.lst (pick l none none none)) H) ?ho ?hb ?hst ?hcd ?hns ?hnd ?hbind ?hbody ?hfin
 walk_at "t_of"
 case hbind => exact bind1 fun q_ => Looks.of_pure rfl
 case hbody =>
  intro env hS; dsimp only at hS
  exact (Ex.stop (Es.ret (Ev.sliceL (Ev.hdrs (Ev.loc rfl) hj) EvP.none EvP.none EvP.none (.ref hi) (by decide) (le_size hlen) (fun q_ q_ => ⟨_, rfl⟩))) (by intro _ _ h; cases h))
 case hfin => first | exact Fin.ret | exact Fin.next
theorem fn_items (c : C1) (H : List HObj) {i j : Nat} {l : List V} (hj : H[j]? = some (.sem (ownA HX i))) (hi : H[i]? = some (.list l)) (hlen : l.length ≤ 16777216) : Fn c.ct 3 (.val (.ref 218)) [.sem (instA 254 j)] [] H H (.lst l) := by
 have h := fn_items0 c H hj hi hlen
 rwa [pick_all] at h
theorem join_one {x y : Str} : Txt.join x [y] = y := rfl
theorem three_of {α : Type} {l : List α} (h : l.length = 3) : ∃ a b d, l = [a, b, d] := by
 obtain _ | ⟨a, _ | ⟨b, _ | ⟨d, _ | ⟨e, l⟩⟩⟩⟩ := l
 ·cases h
 ·cases h
 ·cases h
 ·exact ⟨a, b, d, rfl⟩
 ·cases h
theorem add_core (c : C1) (H : List HObj) {i j : Nat} {l : List V} (hj : H[j]? = some (.sem (ownA HX i))) (hi : H[i]? = some (.list l)) (hlen : l.length < 16777216) {x y : Str} (hx : Plain x) (hy : Plain y) : Fn c.ct 4 (.val (.ref 251)) [.sem (instA 254 j), .str x, .str y] [] H ((((H ++ [HObj.sem bareA]) ++ [HObj.list []]).set (H ++ [HObj.sem bareA]).length (HObj.list ([] ++ [V.str y]))).set i (HObj.list (l ++ [V.tup [V.str x, V.str (Txt.join "; " [y])]]))) .none := by
 have li : i < H.length := (List.getElem?_eq_some_iff.mp hi).1
 have lj : j < H.length := (List.getElem?_eq_some_iff.mp hj).1
 have g1 : ∀ k o, H[k]? = some o → ((H ++ [HObj.sem bareA]) ++ [HObj.list []])[k]? = some o := fun k o e => getElem?_append_some (getElem?_append_some e)
 have g2 : ∀ k o, k < H.length → H[k]? = some o → (((H ++ [HObj.sem bareA]) ++ [HObj.list []]).set (H ++ [HObj.sem bareA]).length (HObj.list ([] ++ [V.str y])))[k]? = some o := fun k o q e => by
  rw [List.getElem?_set_ne (by simp; lia)]; exact g1 k o e
 have hj1 := g1 _ _ hj
 have hj2 := g2 _ _ lj hj
 have hi2 := g2 _ _ li hi
 have hp0 : ((H ++ [HObj.sem bareA]) ++ [HObj.list []])[(H ++ [HObj.sem bareA]).length]? = some (.list []) := by simp
 have hp2 : (((H ++ [HObj.sem bareA]) ++ [HObj.list []]).set (H ++ [HObj.sem bareA]).length (HObj.list ([] ++ [V.str y])))[(H ++ [HObj.sem bareA]).length]? = some (.list ([y].map V.str)) := by rw [List.getElem?_set_self (by simp)]; rfl
 have hb2 : (((H ++ [HObj.sem bareA]) ++ [HObj.list []]).set (H ++ [HObj.sem bareA]).length (HObj.list ([] ++ [V.str y])))[H.length]? = some (.sem bareA) := by rw [List.getElem?_set_ne (by simp)]; simp
 refine' fnXOf (ns := ["self", "_name", "_value", "_params"]) (vs := [.sem (instA 254 j), .str x, .str y, .ref H.length]) (o := .next [("_value", .str y), ("parts", .ref (H ++ [HObj.sem bareA]).length), ("self", .sem (instA 254 j)), ("_name", .str x), ("_value", .str y), ("_params", .ref H.length)] ((((H ++ [HObj.sem bareA]) ++ [HObj.list []]).set (H ++ [HObj.sem bareA]).length (HObj.list ([] ++ [V.str y]))).set i (HObj.list (l ++ [V.tup [V.str x, V.str (Txt.join "; " [y])]])))) ?ho ?hb ?hst ?hcd ?hns ?hnd ?hbind ?hbody ?hfin
 walk_at "t_of"
 case hbind => exact BindsX.kw (args := [.sem (instA 254 j), .str x, .str y]) (fun xs D hl => by obtain ⟨a, b, d, rfl⟩ := three_of hl; kernel_rfl)
 case hbody =>
  intro env hS; dsimp only at hS
  exact (Ex.cons (Es.assign (Ev.lstT EvL.nil (Nat.le_of_ble_eq_true rfl) (by rfl)) (il hS rfl) rfl)
 (Ex.cons (Es.ifTb (Tst.cmp (Ev.loc rfl) Ev.none (Cmp.isNotNone (b := true) (by (intro w x r; cases r; rfl)))) (by rfl) (Ex.cons (Es.assign (Ev.hdr (hm_conv _) (Ev.loc rfl) hj1 (EvA.kw (kv := [("name", _)]) (EvL.cons (Ev.loc rfl) EvL.nil) (EvK.cons Ev.bool EvK.nil) (fun q_ => rfl) (fun q_ => rfl) (fun q_ => rfl)) (by exact conv_value c _ hy) rfl rfl) (il hS rfl) rfl)
 (Ex.one (Es.expr (Ev.meth (Ev.loc rfl) (EvL.cons (Ev.loc rfl) EvL.nil) (by exact Mth.append hp0 rfl (Nat.zero_le _)) (Typ.lst (.ref hp0)) rfl rfl rfl rfl (fun q_ q_ q_ q_ q_ h => Calls.evalArgs_plain h)) (in_of hS (by intro e he; cases e; dsimp only at he; subst he; rfl)) rfl))))
 (Ex.cons (Es.for (SrcE.of (Ev.meth0 (Ev.loc rfl) (by exact Mth.items hb2) (Typ.bare hb2) rfl rfl) (Src.items hb2)) rfl (Fo.nil hb2) (fun q_ q_ => rfl))
 (Ex.one (Es.expr (Ev.meth (Ev.hdrs (Ev.loc rfl) hj2) (EvL.cons (Ev.tup (EvL.cons (Ev.hdr (hm_conv _) (Ev.loc rfl) hj2 (EvA.kw (kv := [("name", _)]) (EvL.cons (Ev.loc rfl) EvL.nil) (EvK.cons Ev.bool EvK.nil) (fun q_ => rfl) (fun q_ => rfl) (fun q_ => rfl)) (by exact conv_name c _ hx) rfl rfl) (EvL.cons (Ev.meth Ev.str (EvL.cons (Ev.loc rfl) EvL.nil) (by exact Mth.join (ns := [y]) (.ref hp2) (by show y.length + 0 + 1 * 2 ≤ 16777216; have := hy.2; lia)) Typ.str rfl rfl rfl rfl (fun q_ q_ q_ q_ q_ h => Calls.evalArgs_plain h)) EvL.nil))) EvL.nil) (by exact Mth.append hi2 rfl (le_size (Nat.le_of_lt hlen))) (Typ.lst (.ref hi2)) rfl rfl rfl rfl (fun q_ q_ q_ q_ q_ h => Calls.evalArgs_plain h)) (in_of hS (by intro e he; cases e; dsimp only at he; subst he; rfl)) rfl)))))
 case hfin => first | exact Fin.ret | exact Fin.next
theorem set_front {H K : List HObj} {i : Nat} {x : HObj} (h : i < H.length) : (H ++ K).set i x = H.set i x ++ K := List.set_append_left _ _ h
theorem cl_set {H : List HObj} {i : Nat} {l : List V} (h : Cl H) : Cl (H.set i (.list l)) := fun j P e => by
 rw [List.length_set]
 by_cases q : i = j
 ·subst q
  by_cases z : i < H.length
  ·rw [List.getElem?_set_self z] at e; cases e
  ·rw [List.getElem?_eq_none (by simp; exact Nat.le_of_not_lt (by assumption))] at e; cases e
 ·rw [List.getElem?_set_ne q] at e
  exact h j P e
theorem fn_add (c : C1) (H : List HObj) {i j : Nat} {l : List V} (hj : H[j]? = some (.sem (ownA HX i))) (hi : H[i]? = some (.list l)) (hlen : l.length < 16777216) {x y : Str} (hx : Plain x) (hy : Plain y) :
  Fn c.ct 4 (.val (.ref 251)) [.sem (instA 254 j), .str x, .str y] [] H (H.set i (.list (l ++ [.tup [.str x, .str y]]))) .none := by
 have li : i < H.length := (List.getElem?_eq_some_iff.mp hi).1
 have h := add_core c H hj hi hlen hx hy
 have e1 : ((H ++ [HObj.sem bareA]) ++ [HObj.list []]).set (H ++ [HObj.sem bareA]).length (HObj.list ([] ++ [V.str y])) = H ++ [HObj.sem bareA, HObj.list ([] ++ [V.str y])] := by
  rw [List.set_append_right _ _ (Nat.le_refl _), Nat.sub_self, List.append_assoc]; rfl
 rw [e1, set_front li, join_one] at h
 exact Fn.shed h (by simp) (.dat rfl) cl_set
theorem Fo.find {C : Ct} {n : Nat} {env : Env} {target : PySem.Expr} {body : List PySem.Stmt} {Ok : List HObj → Prop} {α : Type} {f r : α → V} {p : α → Bool} {σ : Loc} {H : List HObj} (ok : Ok H) {l : List α}
  (h1 : ∀ a ∈ l, p a = false → Turn C n env target body (f a) σ H σ H) (h2 : ∀ a ∈ l, p a = true → ∃ σ0, As C n env target (f a) σ H σ0 ∧ Ex C n env σ0 H body (.ret (r a) H)) {a : α} (h : l.find? p = some a) : Fo C n env target body Ok (l.map f) σ H (.ret (r a) H) := by
 induction l with
 | nil => cases h
 | cons b l ih =>
  rw [List.find?_cons] at h
  rw [List.map_cons]
  cases q : p b with
  | true =>
   rw [q] at h
   obtain rfl := Option.some.inj h
   obtain ⟨σ0, g⟩ := h2 b (.head _) q
   exact .ret ok g.1 g.2
  | false =>
   rw [q] at h
   obtain ⟨g1, g2, g3⟩ := h1 b (.head _) q
   exact .cons ok g1 g2 (.weak g3 (ih (fun a m => h1 a (.tail _ m)) (fun a m => h2 a (.tail _ m)) h))
theorem Fo.skip {C : Ct} {n : Nat} {env : Env} {target : PySem.Expr} {body : List PySem.Stmt} {Ok : List HObj → Prop} {α : Type} {f : α → V} {σ : Loc} {H : List HObj} (ok : Ok H) {l : List α}
  (h1 : ∀ a ∈ l, Turn C n env target body (f a) σ H σ H) : Fo C n env target body Ok (l.map f) σ H (.next σ H) := by
 induction l with
 | nil => exact .nil ok
 | cons b l ih =>
  obtain ⟨g1, g2, g3⟩ := h1 b (.head _)
  exact .cons ok g1 g2 (.weak g3 (ih fun a m => h1 a (.tail _ m)))
theorem fn_get_all (c : C1) (H : List HObj) {i j : Nat} {l : List (Str × Str)} (hj : H[j]? = some (.sem (ownA HX i))) (hi : H[i]? = some (.list (pairsV l))) (hlen : l.length ≤ 16777216) (hl : ∀ q ∈ l, q.1.length ≤ 100000) {x : Str} (hx0 : x.length ≤ 100000) (hx : Plain (Txt.lower x)) : Fn c.ct 4 (.val (.ref 193)) [.sem (instA 254 j), .str x] [] H H (.lst ((l.filter fun q => decide (Txt.lower q.1 = Txt.lower x)).map fun q => V.str q.2)) := by
 refine' fnOf (ns := ["self", "name"]) (vs := [.sem (instA 254 j), .str x]) (o := .ret (.lst ((l.filter fun q => decide (Txt.lower q.1 = Txt.lower x)).map fun q => V.str q.2)) H) ?ho ?hb ?hst ?hcd ?hns ?hnd ?hbind ?hbody ?hfin
 walk_at "t_of"
 case hbind => exact bind2 fun q_ q_ => Looks.of_pure rfl
 case hbody =>
  intro env hS; dsimp only at hS
  exact (Ex.cons (Es.assign (Ev.hdr (hm_conv _) (Ev.loc rfl) hj (EvA.kw (kv := [("name", _)]) (EvL.cons (Ev.meth0 (Ev.loc rfl) (by exact Mth.lower hx0) (Typ.str) rfl rfl) EvL.nil) (EvK.cons Ev.bool EvK.nil) (fun q_ => rfl) (fun q_ => rfl) (fun q_ => rfl)) (by exact conv_name c _ hx) rfl rfl) (.inr (kind_of hS rfl)) rfl)
 (Ex.stop (Es.ret (Ev.compS hS (SrcE.of (Ev.hdrs (Ev.loc rfl) hj) (Src.lst (.ref hi))) rfl (fun K => (Lsy.ref hi).app) (by kernel_rfl) (fun cenv hC1 => (Co.pick (f := fun q : Str × Str => V.tup [.str q.1, .str q.2]) (p := fun q => decide (Txt.lower q.1 = Txt.lower x)) (g := fun q => V.str q.2) (fun q hq => ⟨_, (fun K => (Ast.name (.inl ⟨kind_of hC1 rfl, rfl⟩))), (fun K => (TstL.one (Tst.cmp (Ev.meth0 (Ev.sub (Ev.loc rfl) Ev.int (Itm.tup (j := 0) (by decide) (by decide) rfl rfl (fun q_ q_ => rfl))) (by exact Mth.lower (hl q hq)) (Typ.str) rfl rfl) (Ev.loc rfl) Cmp.eqS))), (fun q_ => ⟨(fun K => (Ev.sub (Ev.loc rfl) Ev.int (Itm.tup (j := 1) (by decide) (by decide) rfl rfl (fun q_ q_ => rfl)))), rfl⟩), (sub_cons rfl)⟩))) (le_size (by unfold pairsV; rw [List.length_map]; exact hlen)) (fun q_ q_ => rfl) (Nat.le_refl _))) (by intro _ _ h; cases h)))
 case hfin => first | exact Fin.ret | exact Fin.next
theorem fn_get (c : C1) (H : List HObj) {i j : Nat} {l : List (Str × Str)} (hj : H[j]? = some (.sem (ownA HX i))) (hi : H[i]? = some (.list (pairsV l))) (hlen : l.length ≤ 16777216) (hl : ∀ q ∈ l, q.1.length ≤ 100000) {x : Str} (hx0 : x.length ≤ 100000) (hx : Plain (Txt.lower x)) {D : V} {a : Str × Str} (hfind : l.find? (fun q => decide (Txt.lower q.1 = Txt.lower x)) = some a) : Fn c.ct 4 (.val (.ref 201)) [.sem (instA 254 j), .str x, D] [] H H (.str a.2) := by
 refine' fnOf (ns := ["self", "name", "default"]) (vs := [.sem (instA 254 j), .str x, D]) (o := .ret (.str a.2) H) ?ho ?hb ?hst ?hcd ?hns ?hnd ?hbind ?hbody ?hfin
 walk_at "t_of"
 case hbind => exact bind3 fun q_ q_ q_ => Looks.of_peek c.X (by kernel_rfl)
 case hbody =>
  intro env hS; dsimp only at hS
  exact (Ex.cons (Es.assign (Ev.hdr (hm_conv _) (Ev.loc rfl) hj (EvA.kw (kv := [("name", _)]) (EvL.cons (Ev.meth0 (Ev.loc rfl) (by exact Mth.lower hx0) (Typ.str) rfl rfl) EvL.nil) (EvK.cons Ev.bool EvK.nil) (fun q_ => rfl) (fun q_ => rfl) (fun q_ => rfl)) (by exact conv_name c _ hx) rfl rfl) (il hS rfl) rfl)
 (Ex.stop (Es.for (SrcE.of (Ev.hdrs (Ev.loc rfl) hj) (Src.lst (.ref hi))) rfl (Fo.weak (σ' := [("name", .str (Txt.lower x)), ("default", D)]) (subs_cons rfl (subs_cons rfl subs_nil)) (Fo.find (f := fun q : Str × Str => V.tup [.str q.1, .str q.2]) (r := fun q => V.str q.2) (p := fun q => decide (Txt.lower q.1 = Txt.lower x)) (.ref hi) (fun q hq hb => Turn.mk (Ast.tup (AsL.cons (Ast.name (.inr ⟨(il hS rfl), rfl⟩)) (AsL.cons (Ast.name (.inr ⟨(il hS rfl), rfl⟩)) AsL.nil)) fw_nonSeq) (Ex.one (Es.ifFb (Tst.cmp (Ev.meth0 (Ev.loc rfl) (by exact Mth.lower (hl q hq)) (Typ.str) rfl rfl) (Ev.loc rfl) Cmp.eqS) (by exact hb) Ex.nil)) (subs_cons rfl (subs_cons rfl subs_nil))) (fun q hq hb => ⟨_, (Ast.tup (AsL.cons (Ast.name (.inr ⟨(il hS rfl), rfl⟩)) (AsL.cons (Ast.name (.inr ⟨(il hS rfl), rfl⟩)) AsL.nil)) fw_nonSeq), (Ex.stop (Es.ifTb (Tst.cmp (Ev.meth0 (Ev.loc rfl) (by exact Mth.lower (hl q hq)) (Typ.str) rfl rfl) (Ev.loc rfl) Cmp.eqS) (by exact hb) (Ex.stop (Es.ret (Ev.loc rfl)) (by intro _ _ h; cases h))) (by intro _ _ h; cases h))⟩) hfind)) (fun q_ q_ => rfl)) (by intro _ _ h; cases h)))
 case hfin => first | exact Fin.ret | exact Fin.next
theorem fn_get_no (c : C1) (H : List HObj) {i j : Nat} {l : List (Str × Str)} (hj : H[j]? = some (.sem (ownA HX i))) (hi : H[i]? = some (.list (pairsV l))) (hlen : l.length ≤ 16777216) (hl : ∀ q ∈ l, q.1.length ≤ 100000) {x : Str} (hx0 : x.length ≤ 100000) (hx : Plain (Txt.lower x)) {D : V} (hno : ∀ q ∈ l, decide (Txt.lower q.1 = Txt.lower x) = false) : Fn c.ct 4 (.val (.ref 201)) [.sem (instA 254 j), .str x, D] [] H H (D) := by
 refine' fnOf (ns := ["self", "name", "default"]) (vs := [.sem (instA 254 j), .str x, D]) (o := .ret (D) H) ?ho ?hb ?hst ?hcd ?hns ?hnd ?hbind ?hbody ?hfin
 walk_at "t_of"
 case hbind => exact bind3 fun q_ q_ q_ => Looks.of_peek c.X (by kernel_rfl)
 case hbody =>
  intro env hS; dsimp only at hS
  exact (Ex.cons (Es.assign (Ev.hdr (hm_conv _) (Ev.loc rfl) hj (EvA.kw (kv := [("name", _)]) (EvL.cons (Ev.meth0 (Ev.loc rfl) (by exact Mth.lower hx0) (Typ.str) rfl rfl) EvL.nil) (EvK.cons Ev.bool EvK.nil) (fun q_ => rfl) (fun q_ => rfl) (fun q_ => rfl)) (by exact conv_name c _ hx) rfl rfl) (il hS rfl) rfl)
 (Ex.cons (Es.for (SrcE.of (Ev.hdrs (Ev.loc rfl) hj) (Src.lst (.ref hi))) rfl (Fo.weak (σ' := [("name", .str (Txt.lower x)), ("default", D)]) (subs_cons rfl (subs_cons rfl subs_nil)) (Fo.skip (f := fun q : Str × Str => V.tup [.str q.1, .str q.2]) (.ref hi) (fun q hq => (by have hb := hno q hq; exact Turn.mk (Ast.tup (AsL.cons (Ast.name (.inr ⟨(il hS rfl), rfl⟩)) (AsL.cons (Ast.name (.inr ⟨(il hS rfl), rfl⟩)) AsL.nil)) fw_nonSeq) (Ex.one (Es.ifFb (Tst.cmp (Ev.meth0 (Ev.loc rfl) (by exact Mth.lower (hl q hq)) (Typ.str) rfl rfl) (Ev.loc rfl) Cmp.eqS) (by exact hb) Ex.nil)) (subs_cons rfl (subs_cons rfl subs_nil)))))) (fun q_ q_ => rfl))
 (Ex.stop (Es.ret (Ev.loc rfl)) (by intro _ _ h; cases h))))
 case hfin => first | exact Fin.ret | exact Fin.next
noncomputable abbrev sEnd : Str := Str.ofString ""
noncomputable def numOf (x : Str) : Int := if x = sEnd then 0 else match toldL.findIdx? (· == x) with | some k => 208 + (k : Int) | none => 256
noncomputable def cntLt (row : List Str) (n : Int) : Nat := row.countP fun y => decide (numOf y < n)
noncomputable def cntLe (row : List Str) (n : Int) : Nat := row.countP fun y => decide (numOf y ≤ n)
noncomputable def ins (row : List Str) (x : Str) : List Str := row.take (cntLe row (numOf x)) ++ x :: row.drop (cntLe row (numOf x))
noncomputable abbrev SortedN (row : List Str) : Prop := row.Pairwise fun a b => numOf a ≤ numOf b
theorem down_count {α : Type} {p : α → Bool} {l : List α} (h : l.Pairwise (fun a b => p b = true → p a = true)) {i : Nat} {y : α} (e : l[i]? = some y) : p y = true ↔ i < l.countP p := by
 induction l generalizing i with
 | nil => cases e
 | cons a l ih =>
  rw [List.pairwise_cons] at h
  rw [List.countP_cons]
  cases z : p a with
  | true =>
   rw [if_pos rfl]
   cases i with
   | zero => cases e; exact ⟨fun q_ => Nat.succ_pos _, fun q_ => z⟩
   | succ i => exact (ih h.2 e).trans Nat.succ_lt_succ_iff.symm
  | false =>
   have no : ∀ b ∈ l, p b = true → False := fun b m q => by have := h.1 b m q; rw [z] at this; cases this
   rw [if_neg (by decide), List.countP_eq_zero.mpr no]
   refine ⟨fun q => ?_, fun q => absurd q (Nat.not_lt_zero _)⟩
   rcases List.mem_cons.mp (List.mem_of_getElem? e) with rfl | m
   ·rw [z] at q; cases q
   ·exact (no y m q).elim
theorem lt_iff {row : List Str} (h : SortedN row) {n : Int} {i : Nat} {y : Str} (e : row[i]? = some y) : numOf y < n ↔ i < cntLt row n := by
 unfold cntLt
 have := down_count (p := fun y => decide (numOf y < n)) (h.imp fun {a b} q z => by simp only [decide_eq_true_eq] at z ⊢; lia) e
 simpa using this
theorem le_iff {row : List Str} (h : SortedN row) {n : Int} {i : Nat} {y : Str} (e : row[i]? = some y) : numOf y ≤ n ↔ i < cntLe row n := by
 unfold cntLe
 have := down_count (p := fun y => decide (numOf y ≤ n)) (h.imp fun {a b} q z => by simp only [decide_eq_true_eq] at z ⊢; lia) e
 simpa using this
theorem cntLe_len (row : List Str) (n : Int) : cntLe row n ≤ row.length := List.countP_le_length
theorem cntLt_le (row : List Str) (n : Int) : cntLt row n ≤ cntLe row n := List.countP_mono_left fun x q_ h => by simp only [decide_eq_true_eq] at h ⊢; exact Int.le_of_lt (by assumption)
theorem ins_len (row : List Str) (x : Str) : (ins row x).length = row.length + 1 := by
 unfold ins
 have := cntLe_len row (numOf x)
 simp; lia
theorem mem_ins {row : List Str} {x y : Str} : y ∈ ins row x ↔ y = x ∨ y ∈ row := by
 unfold ins
 rw [List.mem_append, List.mem_cons]
 constructor
 ·rintro (h | h | h)
  ·exact .inr (List.mem_of_mem_take h)
  ·exact .inl h
  ·exact .inr (List.mem_of_mem_drop h)
 ·rintro (h | h)
  ·exact .inr (.inl h)
  ·rw [← List.take_append_drop (cntLe row (numOf x)) row, List.mem_append] at h
   rcases h with h | h
   ·exact .inl h
   ·exact .inr (.inr h)
theorem ins_sorted {row : List Str} (h : SortedN row) (x : Str) : SortedN (ins row x) := by
 unfold ins
 have h' := h
 rw [← List.take_append_drop (cntLe row (numOf x)) row] at h'
 have hp := List.pairwise_append.mp h'
 have t1 : ∀ y ∈ row.take (cntLe row (numOf x)), numOf y ≤ numOf x := fun y hy => by
  obtain ⟨i, hi⟩ := List.getElem?_of_mem hy
  have hi' : i < cntLe row (numOf x) := by
   have := (List.getElem?_eq_some_iff.mp hi).1
   simp at this; lia
  rw [List.getElem?_take_of_lt hi'] at hi
  exact (le_iff h hi).mpr hi'
 have t2 : ∀ y ∈ row.drop (cntLe row (numOf x)), numOf x ≤ numOf y := fun y hy => by
  obtain ⟨i, hi⟩ := List.getElem?_of_mem hy
  rw [List.getElem?_drop] at hi
  have : ¬ numOf y ≤ numOf x := fun z => by
   have := (le_iff h hi).mp z; lia
  lia
 refine List.pairwise_append.mpr ⟨hp.1, List.pairwise_cons.mpr ⟨t2, hp.2.1⟩, fun a ha b hb => ?_⟩
 rcases List.mem_cons.mp hb with rfl | hb
 ·exact t1 a ha
 ·exact hp.2.2 a ha b hb
theorem ins_count {row : List Str} {x : Str} (p : Str → Bool) : (ins row x).countP p = row.countP p + (if p x then 1 else 0) := by
 unfold ins
 rw [List.countP_append, List.countP_cons, ← Nat.add_assoc, ← List.countP_append, List.take_append_drop]
noncomputable def spelt (k : Nat) (name : Str) : Str := if k % 2 = 0 then Txt.upper name else Txt.lower name
noncomputable def hear : (fuel k : Nat) → (row : List Str) → (above below : Int) → (read : List Str) → (tab : List (Str × Str)) → List Str × List (Str × Str) × List Str
 | 0, _, row, _, _, read, tab => (read, tab, row)
 | fuel + 1, k, row, above, below, read, tab =>
  let name := row.getD (above * (row.length : Int) / below).toNat sEnd
  if name = sEnd then (read ++ [name], tab, row)
  else hear fuel (k + 1) (ins row (spelt k name)) (above * (row.length : Int) - (cntLt row (numOf name) : Int) * below) (below * ((cntLe row (numOf name) : Int) - cntLt row (numOf name))) (read ++ [name]) (tab ++ [(spelt k name, ((toString (k : Int) : String) : Str))])
noncomputable abbrev sP : Str := Str.ofString "p"
noncomputable abbrev sPP : Str := Str.ofString "P"
noncomputable def Good (x : Str) : Prop := x = sEnd ∨ x ∈ toldL ∨ x = sP ∨ x = sPP
theorem told_nums : (toldL.zipIdx.all fun p => numOf p.1 == 208 + (p.2 : Int)) = true := by decide +kernel
noncomputable def plainB (x : Str) : Bool := x.cps.all fun c => decide (32 ≤ c) && decide (c < 127)
theorem plain_of {x : Str} (h : plainB x = true) (hl : x.length ≤ 100000) : Plain x := ⟨fun c hc => by
 have := Array.all_eq_true'.mp h c hc
 rw [Bool.and_eq_true, decide_eq_true_eq, decide_eq_true_eq] at this
 exact this, hl⟩
theorem told_plain : (toldL.all fun x => plainB x && decide (x.length ≤ 3) && (Txt.upper x == x) && (Txt.lower x == x) && (Txt.swapcase x == x)) = true := by decide +kernel
theorem told_num {k : Nat} {x : Str} (h : toldL[k]? = some x) : numOf x = 208 + (k : Int) := by
 have q := List.all_eq_true.mp told_nums (x, k) (List.mem_zipIdx_iff_getElem?.mpr h)
 simpa using q
theorem fn_number (c : C1) (H : List HObj) {x : Str} (h : Good x) : Fn c.ct 3 (.val (.ref 265)) [.str x] [] H H (.int (numOf x)) := by
 rcases h with rfl | h | rfl | rfl
 ·have e : numOf sEnd = 0 := if_pos rfl
  rw [e]
  exact Fn.eq (fn_number_no c H (by kernel_rfl) (by decide)) rfl
 ·obtain ⟨k, hk⟩ := List.getElem?_of_mem h
  rw [told_num hk]
  exact fn_number_op c H hk
 ·have e : numOf sP = 256 := by decide +kernel
  rw [e]
  exact Fn.eq (fn_number_no c H (by kernel_rfl) (by decide)) rfl
 ·have e : numOf sPP = 256 := by decide +kernel
  rw [e]
  exact Fn.eq (fn_number_no c H (by kernel_rfl) (by decide)) rfl
noncomputable def kindOf (x : Str) : Str := if x = sEnd then Str.ofString "end" else if numOf x < 256 then Str.ofString "operator" else Str.ofString "phrase"
theorem told_len : toldL.length = 48 := rfl
theorem num_cases {x : Str} (h : Good x) : (x = sEnd ∧ numOf x = 0) ∨ (x ≠ sEnd ∧ x ∈ toldL ∧ 208 ≤ numOf x ∧ numOf x < 256) ∨ (x ≠ sEnd ∧ (x = sP ∨ x = sPP) ∧ numOf x = 256) := by
 rcases h with rfl | h | rfl | rfl
 ·exact .inl ⟨rfl, if_pos rfl⟩
 ·obtain ⟨k, hk⟩ := List.getElem?_of_mem h
  have lt := (List.getElem?_eq_some_iff.mp hk).1
  rw [told_len] at lt
  have e := told_num hk
  refine .inr (.inl ⟨fun z => ?_, h, by lia, by lia⟩)
  subst z
  have e0 : numOf sEnd = 0 := if_pos rfl
  lia
 ·exact .inr (.inr ⟨by decide, .inl rfl, by decide +kernel⟩)
 ·exact .inr (.inr ⟨by decide, .inr rfl, by decide +kernel⟩)
theorem fn_kind (c : C1) (H : List HObj) {x : Str} (h : Good x) : Fn c.ct 5 (.val (.ref 270)) [.str x] [] H H (.str (kindOf x)) := by
 have hn := fn_number c H h
 have h1 := fn_ISEOF c H (a := numOf x)
 have h2 := fn_ISNONTERMINAL c H (a := numOf x)
 have h3 := fn_ISTERMINAL c H (a := numOf x)
 rcases num_cases h with ⟨e, n⟩ | ⟨e, _, a, b⟩ | ⟨e, _, n⟩
 ·rw [n] at h1 h2 h3 hn
  unfold kindOf
  rw [if_pos e]
  exact kind_end c H hn h1 h2 h3
 ·rw [beq_eq_false_iff_ne.mpr (show numOf x ≠ 0 by lia)] at h1
  rw [decide_eq_false (show ¬ numOf x ≥ 256 by lia)] at h2
  rw [decide_eq_true (show numOf x < 256 by omega)] at h3
  unfold kindOf
  rw [if_neg e, if_pos b]
  exact kind_operator c H hn h1 h2 h3
 ·rw [n] at h1 h2 h3 hn
  unfold kindOf
  rw [if_neg e, if_neg (by lia)]
  exact kind_phrase c H hn h1 h2 h3
theorem good_plain {x : Str} (h : Good x) : Plain x ∧ x.length ≤ 3 := by
 rcases h with rfl | h | rfl | rfl
 ·exact ⟨plain_of (by decide +kernel) (by decide), by decide⟩
 ·have := List.all_eq_true.mp told_plain x h
  simp only [Bool.and_eq_true, decide_eq_true_eq] at this
  exact ⟨plain_of this.1.1.1.1 (by omega), this.1.1.1.2⟩
 ·exact ⟨plain_of (by decide +kernel) (by decide), by decide⟩
 ·exact ⟨plain_of (by decide +kernel) (by decide), by decide⟩
inductive CasesP : Prop
 | mk : Txt.upper sP = sPP → Txt.upper sPP = sPP → Txt.lower sP = sP → Txt.lower sPP = sP → Txt.swapcase sP = sPP → Txt.swapcase sPP = sP → Txt.upper sEnd = sEnd → Txt.lower sEnd = sEnd → Txt.swapcase sEnd = sEnd → CasesP
theorem cases_p : CasesP := by constructor <;> decide +kernel
theorem good_case {x : Str} (h : Good x) : (Good (Txt.upper x) ∧ numOf (Txt.upper x) = numOf x) ∧ (Good (Txt.lower x) ∧ numOf (Txt.lower x) = numOf x) ∧ (Good (Txt.swapcase x) ∧ numOf (Txt.swapcase x) = numOf x) := by
 have e1 : numOf sP = 256 := by decide +kernel
 have e2 : numOf sPP = 256 := by decide +kernel
 obtain ⟨c1, c2, c3, c4, c5, c6, c7, c8, c9⟩ := cases_p
 rcases h with rfl | h | rfl | rfl
 ·rw [c7, c8, c9]; exact ⟨⟨.inl rfl, rfl⟩, ⟨.inl rfl, rfl⟩, ⟨.inl rfl, rfl⟩⟩
 ·have := List.all_eq_true.mp told_plain x h
  simp only [Bool.and_eq_true, beq_iff_eq] at this
  rw [this.1.1.2, this.1.2, this.2]
  exact ⟨⟨.inr (.inl h), rfl⟩, ⟨.inr (.inl h), rfl⟩, ⟨.inr (.inl h), rfl⟩⟩
 ·rw [c1, c3, c5, e1, e2]
  exact ⟨⟨.inr (.inr (.inr rfl)), rfl⟩, ⟨.inr (.inr (.inl rfl)), rfl⟩, ⟨.inr (.inr (.inr rfl)), rfl⟩⟩
 ·rw [c2, c4, c6, e1, e2]
  exact ⟨⟨.inr (.inr (.inr rfl)), rfl⟩, ⟨.inr (.inr (.inl rfl)), rfl⟩, ⟨.inr (.inr (.inl rfl)), rfl⟩⟩
noncomputable def shelfV (pre row : List Str) : List V := (pre ++ row ++ [sEnd]).map V.str
theorem shelf_len (pre row : List Str) : (shelfV pre row).length = pre.length + row.length + 1 := by unfold shelfV; simp; rfl
theorem shelf_at {pre row : List Str} {i : Nat} {v : V} (h : (shelfV pre row)[i]? = some v) (h1 : pre.length ≤ i) (h2 : i < pre.length + row.length) : ∃ y, row[i - pre.length]? = some y ∧ v = .str y := by
 unfold shelfV at h
 rw [List.getElem?_map, List.getElem?_append_left (by simp; omega), List.getElem?_append_right h1] at h
 cases q : row[i - pre.length]? with
 | none => rw [q] at h; cases h
 | some y => rw [q] at h; cases h; exact ⟨y, rfl, rfl⟩
theorem shelf_ins {pre row : List Str} {x : Str} : (shelfV pre row).take (pre.length + cntLe row (numOf x)) ++ V.str x :: (shelfV pre row).drop (pre.length + cntLe row (numOf x)) = shelfV pre (ins row x) := by
 have hl := cntLe_len row (numOf x)
 unfold shelfV ins
 generalize cntLe row (numOf x) = r at hl
 rw [← List.map_take, ← List.map_drop, ← List.map_cons, ← List.map_append]
 congr 1
 rw [List.append_assoc pre row, List.take_length_add_append, List.take_append_of_le_length hl, List.drop_length_add_append, List.drop_append_of_le_length hl]
 simp
theorem Cmp.ltN {C : Ct} {n : Nat} {H : List HObj} {a b : Int} {t : Bool} (h : decide (a < b) = t) : Cmp C n .Lt (.int a) (.int b) H t := h ▸ Cmp.ltI
theorem kp_key (c : C1) : Kp c.ct (.val (.ref 265)) := kp_law_number c
theorem key_some : ∀ (w : Wd) x, VRel w (.val (.ref 265)) x → (x == Value.none) = false := fun w x r => by obtain ⟨_, rfl⟩ := r.inv; rfl
theorem getD_of {row : List Str} {i : Nat} {y : Str} (h : row[i]? = some y) : row.getD i sEnd = y := by rw [List.getD_eq_getElem?_getD, h]; rfl
theorem insort_row (c : C1) (H : List HObj) {js : Nat} {pre row : List Str} {x : Str} (hH : H[js]? = some (.list (shelfV pre row))) (hs : SortedN row) (hg : ∀ y ∈ row, Good y) (hx : Good x) (hlen : pre.length + row.length < 1000) :
  Fn c.ct 5 (.val (.ref 47)) [.ref js, .str x, .int (pre.length : Nat), .int ((pre.length + row.length : Nat) : Int)] [(Str.ofString "key", .val (.ref 265))] H (H.set js (.list (shelfV pre (ins row x)))) .none := by
 have hl := cntLe_len row (numOf x)
 have h := fn_insort c H (n := 3) (lo := pre.length) (hi := pre.length + row.length) (r := pre.length + cntLe row (numOf x)) (KX := .int (numOf x)) (key := .val (.ref 265)) (X := .str x)
  (lt := fun i => decide (numOf x < numOf (row.getD (i - pre.length) sEnd))) hH (by rw [shelf_len]; lia) rfl (kp_key c) key_some (by rw [shelf_len]; exact Nat.le_add_right _ _) (by exact Nat.le_add_right _ _) (by lia) (fn_number c H hx)
  (fun i v hv h1 h2 => by
   obtain ⟨y, hy, rfl⟩ := shelf_at hv h1 h2
   exact ⟨_, fn_number c H (hg y (List.mem_of_getElem? hy)), Cmp.ltN (by rw [getD_of hy])⟩)
  (fun i h1 h2 => by
   obtain ⟨y, hy⟩ : ∃ y, row[i - pre.length]? = some y := ⟨_, List.getElem?_eq_getElem (by lia)⟩
   show decide (_ < _) = false
   rw [getD_of hy, decide_eq_false_iff_not]
   have := (le_iff hs hy (n := numOf x)).mpr (by lia)
   lia)
  (fun i h1 h2 => by
   obtain ⟨y, hy⟩ : ∃ y, row[i - pre.length]? = some y := ⟨_, List.getElem?_eq_getElem (by omega)⟩
   show decide (_ < _) = true
   rw [getD_of hy, decide_eq_true_iff]
   have : ¬ numOf y ≤ numOf x := fun z => by have := (le_iff hs hy).mp z; lia
   lia)
 rw [shelf_ins] at h
 exact h
theorem left_row (c : C1) (H : List HObj) {js : Nat} {pre row : List Str} {n : Int} (hH : H[js]? = some (.list (shelfV pre row))) (hs : SortedN row) (hg : ∀ y ∈ row, Good y) (hlen : pre.length + row.length < 1000) :
  Fn c.ct 4 (.val (.ref 65)) [.ref js, .int n, .int (pre.length : Nat), .int ((pre.length + row.length : Nat) : Int)] [(Str.ofString "key", .val (.ref 265))] H H (.int ((pre.length + cntLt row n : Nat) : Int)) := by
 have hl := cntLe_len row n
 have hl2 := cntLt_le row n
 exact fn_bisect_left c H (n := 3) (lo := pre.length) (hi := pre.length + row.length) (r := pre.length + cntLt row n) (key := .val (.ref 265)) (X := .int n)
  (lt := fun i => decide (numOf (row.getD (i - pre.length) sEnd) < n)) (.ref hH) (by rw [shelf_len]; lia) (kp_key c) key_some (by rw [shelf_len]; lia) (by exact Nat.le_add_right _ _) (by lia)
  (fun i v hv h1 h2 => by
   obtain ⟨y, hy, rfl⟩ := shelf_at hv h1 h2
   exact ⟨_, fn_number c H (hg y (List.mem_of_getElem? hy)), Cmp.ltN (by rw [getD_of hy])⟩)
  (fun i h1 h2 => by
   obtain ⟨y, hy⟩ : ∃ y, row[i - pre.length]? = some y := ⟨_, List.getElem?_eq_getElem (by lia)⟩
   show decide (_ < _) = true
   rw [getD_of hy, decide_eq_true_iff]
   exact (lt_iff hs hy).mpr (by lia))
  (fun i h1 h2 => by
   obtain ⟨y, hy⟩ : ∃ y, row[i - pre.length]? = some y := ⟨_, List.getElem?_eq_getElem (by omega)⟩
   show decide (_ < _) = false
   rw [getD_of hy, decide_eq_false_iff_not]
   intro z
   have := (lt_iff hs hy).mp z; lia)
theorem right_row (c : C1) (H : List HObj) {js : Nat} {pre row : List Str} {n : Int} (hH : H[js]? = some (.list (shelfV pre row))) (hs : SortedN row) (hg : ∀ y ∈ row, Good y) (hlen : pre.length + row.length < 1000) :
  Fn c.ct 4 (.val (.ref 56)) [.ref js, .int n, .int ((pre.length + cntLt row n : Nat) : Int), .int ((pre.length + row.length : Nat) : Int)] [(Str.ofString "key", .val (.ref 265))] H H (.int ((pre.length + cntLe row n : Nat) : Int)) := by
 have hl := cntLe_len row n
 have hl2 := cntLt_le row n
 exact fn_bisect_right c H (n := 3) (lo := pre.length + cntLt row n) (hi := pre.length + row.length) (r := pre.length + cntLe row n) (key := .val (.ref 265)) (X := .int n)
  (lt := fun i => decide (n < numOf (row.getD (i - pre.length) sEnd))) (.ref hH) (by rw [shelf_len]; lia) (kp_key c) key_some (by rw [shelf_len]; lia) (by lia) (by lia)
  (fun i v hv h1 h2 => by
   obtain ⟨y, hy, rfl⟩ := shelf_at hv (by lia) h2
   exact ⟨_, fn_number c H (hg y (List.mem_of_getElem? hy)), Cmp.ltN (by rw [getD_of hy])⟩)
  (fun i h1 h2 => by
   obtain ⟨y, hy⟩ : ∃ y, row[i - pre.length]? = some y := ⟨_, List.getElem?_eq_getElem (by omega)⟩
   show decide (_ < _) = false
   rw [getD_of hy, decide_eq_false_iff_not]
   have := (le_iff hs hy (n := n)).mpr (by omega)
   lia)
  (fun i h1 h2 => by
   obtain ⟨y, hy⟩ : ∃ y, row[i - pre.length]? = some y := ⟨_, List.getElem?_eq_getElem (by lia)⟩
   show decide (_ < _) = true
   rw [getD_of hy, decide_eq_true_iff]
   have : ¬ numOf y ≤ n := fun z => by have := (le_iff hs hy).mp z; lia
   lia)
section
theorem Ev.ifB {C : Ct} {n : Nat} {env : Env} {σ : Loc} {H H1 H2 : List HObj} {pos : Pos} {v v2 v3 : V} {e1 e2 e3 : PySem.Expr} {b : Bool} (h : Tst C n env σ H e1 H1 b) (h2 : Ev C n env σ H1 e2 H2 v2) (h3 : Ev C n env σ H1 e3 H2 v3) (hv : v = bif b then v2 else v3) : Ev C n env σ H (.IfExp e1 e2 e3 pos) H2 v := by
 subst hv
 cases b
 ·exact Ev.ifF h h3
 ·exact Ev.ifT h h2
noncomputable def GH (H : List HObj) (js : Nat) (pre row : List Str) (tab : List (Str × Str)) (read : List Str) : List HObj :=
 H.set js (.list (shelfV pre row)) ++ [.sem (ownA HX (H.length + 1)), .list (pairsV tab), .list (read.map V.str)]
section
variable {H : List HObj} {js : Nat} {pre row row' : List Str} {tab tab' : List (Str × Str)} {read read' : List Str}
theorem GH_js (h : js < H.length) : (GH H js pre row tab read)[js]? = some (.list (shelfV pre row)) := by
 unfold GH; rw [List.getElem?_append_left (by simp; exact h), List.getElem?_set_self h]
theorem GH_own : (GH H js pre row tab read)[H.length]? = some (.sem (ownA HX (H.length + 1))) := by
 unfold GH; rw [List.getElem?_append_right (by simp)]; simp
theorem GH_tab : (GH H js pre row tab read)[H.length + 1]? = some (.list (pairsV tab)) := by
 unfold GH; rw [List.getElem?_append_right (by simp)]; simp
theorem GH_read : (GH H js pre row tab read)[H.length + 2]? = some (.list (read.map V.str)) := by
 unfold GH; rw [List.getElem?_append_right (by simp)]; simp
theorem GH_set_js (h : js < H.length) : (GH H js pre row tab read).set js (.list (shelfV pre row')) = GH H js pre row' tab read := by
 unfold GH; rw [List.set_append_left _ _ (by simp; exact h), List.set_set]
theorem GH_set_tab : (GH H js pre row tab read).set (H.length + 1) (.list (pairsV tab')) = GH H js pre row tab' read := by
 unfold GH; rw [List.set_append_right _ _ (by simp)]; simp
theorem GH_set_read : (GH H js pre row tab read).set (H.length + 2) (.list (read'.map V.str)) = GH H js pre row tab read' := by
 unfold GH; rw [List.set_append_right _ _ (by simp)]; simp
variable {c : C1} {n : Nat}
theorem g_add (hl : tab.length < 1000) {x y : Str} (hx : Plain x) (hy : Plain y) : Fn c.ct 4 (.val (.ref 251)) [HdV H, .str x, .str y] [] (GH H js pre row tab read) (GH H js pre row (tab ++ [(x, y)]) read) .none := by
 have h := fn_add c (GH H js pre row tab read) GH_own GH_tab (by unfold pairsV; rw [List.length_map]; lia) hx hy
 have e : pairsV tab ++ [.tup [.str x, .str y]] = pairsV (tab ++ [(x, y)]) := by simp [pairsV]
 rw [e, GH_set_tab] at h
 exact h
theorem g_insort (hj : js < H.length) {x : Str} (hs : SortedN row) (hg : ∀ y ∈ row, Good y) (hx : Good x) (hlen : pre.length + row.length < 1000) :
  Fn c.ct 5 (.val (.ref 47)) [.ref js, .str x, .int (pre.length : Nat), .int ((pre.length + row.length : Nat) : Int)] [(Str.ofString "key", .val (.ref 265))] (GH H js pre row tab read) (GH H js pre (ins row x) tab read) .none := by
 have h := insort_row c (GH H js pre row tab read) (GH_js hj) hs hg hx hlen
 rw [GH_set_js hj] at h
 exact h
theorem g_read {x : Str} (hl : read.length < 1000) : Mth c.ct n (Str.ofString "append") (.ref (H.length + 2)) [.str x] (GH H js pre row tab read) (GH H js pre row tab (read ++ [x])) .none "list" "list.append" := by
 have h := Mth.append (C := c.ct) (n := n) (v := .str x) (GH_read (H := H) (js := js) (pre := pre) (row := row) (tab := tab) (read := read)) rfl (by apply le_size; simp; lia)
 have e : read.map V.str ++ [V.str x] = (read ++ [x]).map V.str := by simp
 rw [e, GH_set_read] at h
 exact h
theorem g_end (hj : js < H.length) (hs : H[js]? = some (.list (pre.map V.str))) (hl : pre.length < 1000) : Mth c.ct n (Str.ofString "append") (.ref js) [.str sEnd] ((H ++ [HObj.sem (ownA HX (H.length + 1)), HObj.list []]) ++ [HObj.list []]) (GH H js pre [] [] []) .none "list" "list.append" := by
 have h0 : ((H ++ [HObj.sem (ownA HX (H.length + 1)), HObj.list []]) ++ [HObj.list []])[js]? = some (.list (pre.map V.str)) := getElem?_append_some (getElem?_append_some hs)
 have h := Mth.append (C := c.ct) (n := n) (v := .str sEnd) h0 rfl (by apply le_size; simp; lia)
 have e : pre.map V.str ++ [V.str sEnd] = shelfV pre [] := by simp [shelfV]
 have e2 : ((H ++ [HObj.sem (ownA HX (H.length + 1)), HObj.list []]) ++ [HObj.list []]).set js (.list (shelfV pre [])) = GH H js pre [] [] [] := by
  unfold GH
  rw [List.append_assoc, List.set_append_left _ _ hj]; rfl
 rw [e, e2] at h
 exact h
theorem gh_len (hj : js < H.length) (hl : pre.length + row.length < 1000) : Fn c.ct n (.val (.builtin "len")) [.ref js] [] (GH H js pre row tab read) (GH H js pre row tab read) (.int ((pre.length + row.length + 1 : Nat) : Int)) := by
 have h := Fn.len (C := c.ct) (n := n) (.ref (GH_js (H := H) (pre := pre) (row := row) (tab := tab) (read := read) hj)) (by rw [shelf_len]; lia)
 rw [shelf_len] at h
 exact h
end
structure Heard (k : Nat) (row : List Str) (above below : Int) : Prop where
 sorted : SortedN row
 good : ∀ y ∈ row, Good y
 len : row.length = 5 + k
 a0 : 0 ≤ above
 ab : above < below
 b1 : below ≤ 16777216 * 10 ^ k
structure Here (row : List Str) (above below : Int) (i : Nat) (name : Str) : Prop where
 idx : ((i : Nat) : Int) = above * (row.length : Int) / below
 lt : i < row.length
 at_ : row[i]? = some name
theorem Heard.here {k : Nat} {row : List Str} {above below : Int} (h : Heard k row above below) : ∃ i name, Here row above below i name ∧ row.getD (above * (row.length : Int) / below).toNat sEnd = name ∧ Good name := by
 have hb : 0 < below := by have := h.a0; have := h.ab; lia
 have h0 : 0 ≤ above * (row.length : Int) / below := Int.ediv_nonneg (Int.mul_nonneg h.a0 (by exact Int.ofNat_nonneg _)) (by exact Int.le_of_lt (by assumption))
 have h1 : above * (row.length : Int) / below < row.length := by
  apply Int.ediv_lt_of_lt_mul hb
  rw [Int.mul_comm]
  have := h.len
  exact Int.mul_lt_mul_of_pos_left h.ab (by lia)
 have hlt : (above * (row.length : Int) / below).toNat < row.length := by lia
 have e := List.getElem?_eq_getElem hlt
 exact ⟨(above * (row.length : Int) / below).toNat, row[(above * (row.length : Int) / below).toNat], ⟨by lia, hlt, e⟩, getD_of e, h.good _ (List.getElem_mem _)⟩
theorem spelt_good {k : Nat} {name : Str} (h : Good name) : Good (spelt k name) ∧ numOf (spelt k name) = numOf name := by
 have := good_case h
 unfold spelt
 split
 ·exact this.1
 ·exact this.2.1
theorem Heard.next {k : Nat} {row : List Str} {above below : Int} {i : Nat} {name : Str} (h : Heard k row above below) (hk : k < 5) (hi : Here row above below i name) (hg : Good name) :
  Heard (k + 1) (ins row (spelt k name)) (above * (row.length : Int) - (cntLt row (numOf name) : Int) * below) (below * ((cntLe row (numOf name) : Int) - cntLt row (numOf name))) := by
 have hb : 0 < below := by have := h.a0; have := h.ab; lia
 have l1 : cntLt row (numOf name) ≤ i := by
  rcases Nat.lt_or_ge i (cntLt row (numOf name)) with z | z
  ·have := (lt_iff h.sorted hi.at_ (n := numOf name)).mpr z; lia
  ·exact z
 have l2 : i < cntLe row (numOf name) := (le_iff h.sorted hi.at_).mp (Int.le_refl _)
 have l3 := cntLe_len row (numOf name)
 have e1 : (i : Int) * below ≤ above * (row.length : Int) := by rw [hi.idx]; exact Int.ediv_mul_le _ (by lia)
 have e2 : above * (row.length : Int) < ((i : Int) + 1) * below := by
  rw [hi.idx]
  exact Int.lt_ediv_add_one_mul_self _ hb
 have e3 : (cntLt row (numOf name) : Int) * below ≤ (i : Int) * below := Int.mul_le_mul_of_nonneg_right (by exact Int.ofNat_le.mpr (by assumption)) (by lia)
 have e4 : ((i : Int) + 1) * below ≤ (cntLe row (numOf name) : Int) * below := Int.mul_le_mul_of_nonneg_right (by exact Int.ofNat_lt.mpr (by assumption)) (by lia)
 refine ⟨ins_sorted h.sorted _, fun y hy => ?_, by rw [ins_len, h.len]; exact Nat.add_assoc _ _ _, by lia, ?_, ?_⟩
 ·rcases mem_ins.mp hy with rfl | hy
  ·exact (spelt_good hg).1
  ·exact h.good y hy
 ·rw [Int.mul_sub, Int.mul_comm below, Int.mul_comm below]; lia
 ·have e5 : below * ((cntLe row (numOf name) : Int) - cntLt row (numOf name)) ≤ below * (5 + (k : Int)) := by
   have := h.len
   exact Int.mul_le_mul_of_nonneg_left (by lia) (by lia)
  have e6 : below * (5 + (k : Int)) ≤ below * 10 := Int.mul_le_mul_of_nonneg_left (by lia) (by lia)
  have e7 := h.b1
  rw [Int.pow_succ]
  generalize (10 : Int) ^ k = B at e7
  lia
end
theorem Ev.lstAt {C : Ct} {n i : Nat} {env : Env} {σ : Loc} {H H1 : List HObj} {pos : Pos} {es : List PySem.Expr} {vs : List V} (h : EvL C n env σ H pos es H1 vs) (hl : vs.length ≤ sizeLine) (hd : datL vs = true) (hi : H1.length = i) : Ev C n env σ H (.List es pos) (H1 ++ [.list vs]) (.ref i) := hi ▸ Ev.lstT h hl hd
noncomputable def rngFrom (k fuel : Nat) : List V := (List.range fuel).map fun (i : Nat) => V.int ((k : Int) + (i : Int))
theorem rngFrom_succ (k fuel : Nat) : rngFrom k (fuel + 1) = V.int (k : Int) :: rngFrom (k + 1) fuel := by
 unfold rngFrom
 rw [List.range_succ_eq_map, List.map_cons, List.map_map]
 congr 1
 simp
 intro a _; lia
noncomputable def EndsAt (C : Ct) (n : Nat) (env : Env) (target : PySem.Expr) (body : List PySem.Stmt) (S : Int → Int → Loc) (H : List HObj) (js : Nat) (pre : List Str) (l : List V) (σ : Loc) (K : List HObj) (R : List Str × List (Str × Str) × List Str) : Prop :=
 Fo C n env target body (fun q_ => True) l σ K (.ret (.tup [.ref (H.length + 2), HdV H]) (GH H js pre R.2.2 R.2.1 R.1)) ∨ ∃ a b, Fo C n env target body (fun q_ => True) l σ K (.next (S a b) (GH H js pre R.2.2 R.2.1 R.1))
theorem heard_places {C : Ct} {n : Nat} {env : Env} {target : PySem.Expr} {body : List PySem.Stmt} (S : Int → Int → Loc) {H : List HObj} {js : Nat} {pre : List Str}
  (turn : ∀ (k : Nat) (row : List Str) (above below : Int) (read : List Str) (tab : List (Str × Str)) (i : Nat) (name : Str), k < 5 → Heard k row above below → Here row above below i name → Good name → read.length = k → tab.length = 5 + k →
   (name = sEnd → ∃ σ0, As C n env target (.int (k : Int)) (S above below) (GH H js pre row tab read) σ0 ∧ Ex C n env σ0 (GH H js pre row tab read) body (.ret (.tup [.ref (H.length + 2), HdV H]) (GH H js pre row tab (read ++ [name])))) ∧
   (name ≠ sEnd → Turn C n env target body (.int (k : Int)) (S above below) (GH H js pre row tab read) (S (above * (row.length : Int) - (cntLt row (numOf name) : Int) * below) (below * ((cntLe row (numOf name) : Int) - cntLt row (numOf name))))
    (GH H js pre (ins row (spelt k name)) (tab ++ [(spelt k name, ((toString (k : Int) : String) : Str))]) (read ++ [name]))))
  (fuel k : Nat) (row : List Str) (above below : Int) (read : List Str) (tab : List (Str × Str)) (hk : k + fuel = 5) (h : Heard k row above below) (hr : read.length = k) (ht : tab.length = 5 + k) :
  EndsAt C n env target body S H js pre (rngFrom k fuel) (S above below) (GH H js pre row tab read) (hear fuel k row above below read tab) := by
 induction fuel generalizing k row above below read tab with
 | zero => exact Or.inr ⟨above, below, .nil trivial⟩
 | succ fuel ih =>
  obtain ⟨i, name, hi, hn, hg⟩ := h.here
  have t := turn k row above below read tab i name (by omega) h hi hg hr ht
  rw [rngFrom_succ]
  by_cases q : name = sEnd
  ·have e : hear (fuel + 1) k row above below read tab = (read ++ [name], tab, row) := by unfold hear; rw [hn]; exact if_pos q
   obtain ⟨σ0, g⟩ := t.1 q
   rw [e]
   exact Or.inl (.ret trivial g.1 g.2)
  ·have e : hear (fuel + 1) k row above below read tab = hear fuel (k + 1) (ins row (spelt k name)) (above * (row.length : Int) - (cntLt row (numOf name) : Int) * below) (below * ((cntLe row (numOf name) : Int) - cntLt row (numOf name))) (read ++ [name]) (tab ++ [(spelt k name, ((toString (k : Int) : String) : Str))]) := by rw [hear, hn]; exact if_neg q
   rw [e]
   obtain ⟨g1, g2, g3⟩ := t.2 q
   exact (ih (k + 1) _ _ _ (read ++ [name]) (tab ++ [(spelt k name, ((toString (k : Int) : String) : Str))]) (by omega) (h.next (by omega) hi hg) (by rw [List.length_append, hr]; rfl) (by rw [List.length_append, ht]; rfl)).imp
    (fun z => .cons trivial g1 g2 (.weak g3 z)) fun ⟨a, b, z⟩ => ⟨a, b, .cons trivial g1 g2 (.weak g3 z)⟩
theorem ex_places {C : Ct} {n : Nat} {env : Env} {target iter : PySem.Expr} {body rest : List PySem.Stmt} {pos : Pos} {σ : Loc} {T : PySem.Expr → Bool} {row : List Str} {spot : Int} {tab : List (Str × Str)} (S : Int → Int → Loc) {H : List HObj} {js : Nat} {pre : List Str}
  (he : SrcE C n env σ (GH H js pre row tab []) iter (GH H js pre row tab []) (fun q_ => True) T (rngFrom 0 5)) (hT : T target = true) (hfold : ∀ (env : Env) x, foldedSetIterable iter env x = pure x)
  (hsub : ∀ x u, (S spot 16777216).lookup x = some u → σ.lookup x = some u)
  (turn : ∀ (k : Nat) (row : List Str) (above below : Int) (read : List Str) (tab : List (Str × Str)) (i : Nat) (name : Str), k < 5 → Heard k row above below → Here row above below i name → Good name → read.length = k → tab.length = 5 + k →
   (name = sEnd → ∃ σ0, As C n env target (.int (k : Int)) (S above below) (GH H js pre row tab read) σ0 ∧ Ex C n env σ0 (GH H js pre row tab read) body (.ret (.tup [.ref (H.length + 2), HdV H]) (GH H js pre row tab (read ++ [name])))) ∧
   (name ≠ sEnd → Turn C n env target body (.int (k : Int)) (S above below) (GH H js pre row tab read) (S (above * (row.length : Int) - (cntLt row (numOf name) : Int) * below) (below * ((cntLe row (numOf name) : Int) - cntLt row (numOf name))))
    (GH H js pre (ins row (spelt k name)) (tab ++ [(spelt k name, ((toString (k : Int) : String) : Str))]) (read ++ [name]))))
  (hstart : Heard 0 row spot 16777216) (htab : tab.length = 5 + 0)
  (hret : ∀ a b K, Ex C n env (S a b) K rest (.ret (.tup [.ref (H.length + 2), HdV H]) K)) :
  Ex C n env σ (GH H js pre row tab []) (.For target iter body [] pos :: rest) (.ret (.tup [.ref (H.length + 2), HdV H]) (GH H js pre (hear 5 0 row spot 16777216 [] tab).2.2 (hear 5 0 row spot 16777216 [] tab).2.1 (hear 5 0 row spot 16777216 [] tab).1)) := by
 rcases heard_places S turn 5 0 row spot 16777216 [] tab (by decide) hstart rfl htab with z | ⟨a, b, z⟩
 ·exact Ex.stop (Es.for he hT (Fo.weak hsub z) hfold) (by intro _ _ h; cases h)
 ·exact Ex.cons (Es.for he hT (Fo.weak hsub z) hfold) (hret a b _)
theorem kind_end_iff {x : Str} (h : Good x) : (decide (kindOf x = "end") = true) ↔ x = sEnd := by
 rw [decide_eq_true_iff]
 unfold kindOf
 constructor
 ·intro z
  split at z
  ·assumption
  ·split at z <;> exact absurd z (by decide)
 ·intro z; rw [if_pos z]
theorem spelt_eq {k : Nat} {name : Str} : V.str (spelt k name) = bif (((k : Int).fmod 2) != 0) then V.str (Txt.lower name) else V.str (Txt.upper name) := by
 unfold spelt
 rw [Int.fmod_eq_emod_of_nonneg _ (by decide)]
 by_cases h : k % 2 = 0
 ·rw [if_pos h, show (((k : Int) % 2) != 0) = false by rw [bne_eq_false_iff_eq]; lia]; rfl
 ·rw [if_neg h, show (((k : Int) % 2) != 0) = true by rw [bne_iff_ne]; lia]; rfl
theorem digit_plain {k : Nat} (h : k < 5) : Plain ((toString (k : Int) : String) : Str) := by
 have hc := below5 h
 rcases hc with rfl | rfl | rfl | rfl | rfl <;> exact plain_of (by decide +kernel) (by decide +kernel)
theorem below_abs {k : Nat} {row : List Str} {above below : Int} (h : Heard k row above below) (hk : k < 5) : above.natAbs < 2 ^ 60 ∧ below.natAbs < 2 ^ 60 ∧ 0 < below := by
 have h1 := h.b1
 have h2 : (10 : Int) ^ k ≤ 10 ^ 5 := pow_mono (by decide) (by exact Nat.le_of_lt (by assumption))
 have := h.a0
 have := h.ab
 lia
theorem log_small {a : Int} (h : a.natAbs < 2 ^ 60) : a.natAbs.log2 < 9000 := by
 by_cases q : a.natAbs = 0
 ·rw [q]; decide
 ·have := (Nat.log2_lt q).mpr h; lia
noncomputable def ballVal (phrase x : Str) : Str × Str := (x, if kindOf x = "phrase" then phrase else sEnd)
theorem strv_at {ns : List Str} {i : Nat} {z : V} (h : (ns.map V.str)[i]? = some z) : ∃ x, ns[i]? = some x ∧ z = .str x := by
 rw [List.getElem?_map] at h
 cases q : ns[i]? with
 | none => rw [q] at h; cases h
 | some k => rw [q] at h; exact ⟨k, rfl, (Option.some.inj h).symm⟩
theorem rows_ok : ∀ {l : List Str}, (∀ y ∈ l, Good y) → SortedN (l.foldl ins []) ∧ (∀ y ∈ l.foldl ins [], Good y) ∧ (l.foldl ins []).length = l.length := by
 have key : ∀ (l row : List Str), SortedN row → (∀ y ∈ row, Good y) → (∀ y ∈ l, Good y) → SortedN (l.foldl ins row) ∧ (∀ y ∈ l.foldl ins row, Good y) ∧ (l.foldl ins row).length = row.length + l.length := by
  intro l
  induction l with
  | nil => intro row h1 h2 _; exact ⟨h1, h2, rfl⟩
  | cons a l ih =>
   intro row h1 h2 h3
   obtain ⟨a1, a2, a3⟩ := ih (ins row a) (ins_sorted h1 a) (fun y hy => by
    rcases mem_ins.mp hy with rfl | hy
    ·exact h3 _ (.head _)
    ·exact h2 y hy) (fun y hy => h3 y (.tail _ hy))
   exact ⟨a1, a2, by rw [List.foldl_cons, a3, ins_len]; simp; lia⟩
 intro l h
 have := key l [] .nil (fun q_ h => nomatch h) h
 simpa using this
theorem shelf_item {pre row : List Str} {above below : Int} {i : Nat} {name : Str} (h : Here row above below i name) : (shelfV pre row)[((pre.length + i : Nat) : Int).toNat]? = some (.str name) := by
 show (shelfV pre row)[pre.length + i]? = _
 unfold shelfV
 rw [List.getElem?_map, List.append_assoc, List.getElem?_append_right (by exact Nat.le_add_right _ _), Nat.add_sub_cancel_left, List.getElem?_append_left h.lt, h.at_]; rfl
theorem log_str {k : Nat} (h : k < 5) : ((k : Int)).natAbs.log2 < 1920 := by
 have hc := below5 h
 rcases hc with rfl | rfl | rfl | rfl | rfl <;> decide
set_option tactic.hygienic true in
theorem heard_core (c : C1) (H : List HObj) {js : Nat} {spot : Int} {pre names : List Str} {phrase : Str} {NV : V} (hsp : 0 ≤ spot ∧ spot < 16777216) (hj : js < H.length) (hs : H[js]? = some (.list (pre.map V.str))) (hlen : pre.length < 900) (hnv0 : ∀ K, Lsy K NV (names.map V.str)) (hn5 : names.length = 5) (hgood : ∀ x ∈ names, Good x) (hph : Plain phrase) :
  Fn c.ct 8 (.val (.ref 301)) [.flt (fl (64 * spot)), NV, .str phrase, .ref js] [] H (GH H js pre (hear 5 0 ((names.take 5).foldl ins []) spot 16777216 [] ((names.take 5).map (ballVal phrase))).2.2 (hear 5 0 ((names.take 5).foldl ins []) spot 16777216 [] ((names.take 5).map (ballVal phrase))).2.1 (hear 5 0 ((names.take 5).foldl ins []) spot 16777216 [] ((names.take 5).map (ballVal phrase))).1) (.tup [.ref (H.length + 2), HdV H]) := by
 have hnv := hnv0
 have hint : ∀ K, Fn c.ct 7 (.val (.type "int")) [.flt (Float64.ofInt spot)] [] K K (.int spot) := fun K => Fn.intOf hsp.1 (by lia)
 have hlen0 : ∀ {K : List HObj}, K[js]? = some (.list (pre.map V.str)) → Fn c.ct 7 (.val (.builtin "len")) [.ref js] [] K K (.int (pre.length : Nat)) := fun hK => Fn.eq (Fn.len (.ref hK) (by simp; lia)) (by simp)
 have hs0 : ((H ++ [HObj.sem (ownA HX (H.length + 1)), HObj.list []]) ++ [HObj.list []])[js]? = some (.list (pre.map V.str)) := getElem?_append_some (getElem?_append_some hs)
 have hnt : names.take 5 = names := List.take_of_length_le (by lia)
 obtain ⟨r1, r2, r3⟩ := rows_ok (l := names.take 5) (by rw [hnt]; exact hgood)
 rw [hnt, hn5] at r3
 rw [hnt] at r1 r2
 have hstart : Heard 0 ((names.take 5).foldl ins []) spot 16777216 := by rw [hnt]; exact ⟨r1, r2, by omega, hsp.1, hsp.2, by decide⟩
 have htab : ((names.take 5).map (ballVal phrase)).length = 5 + 0 := by rw [hnt, List.length_map, hn5]
 refine' fnOf (ns := ["hue", "names", "phrase", "shelf"]) (vs := [.flt (fl (64 * spot)), NV, .str phrase, .ref js]) (o := .ret (.tup [.ref (H.length + 2), HdV H]) (GH H js pre (hear 5 0 ((names.take 5).foldl ins []) spot 16777216 [] ((names.take 5).map (ballVal phrase))).2.2 (hear 5 0 ((names.take 5).foldl ins []) spot 16777216 [] ((names.take 5).map (ballVal phrase))).2.1 (hear 5 0 ((names.take 5).foldl ins []) spot 16777216 [] ((names.take 5).map (ballVal phrase))).1)) ?ho ?hb ?hst ?hcd ?hns ?hnd ?hbind ?hbody ?hfin
 walk_at "t_of"
 case hbind => exact bind4 fun q_ q_ q_ q_ => Looks.of_pure rfl
 case hbody =>
  intro env hS; dsimp only at hS
  exact (Ex.cons (Es.assignS (Ev.tup (EvL.cons (Ev.call (gV (g_Headers _) (kind_of hS rfl)) EvA.nil (by exact fn_Headers c H |>.le (by decide)) (kp_Headers _)) (EvL.cons (Ev.lstAt (i := H.length + 2) EvL.nil (Nat.le_of_ble_eq_true rfl) rfl (by simp)) (EvL.cons (Ev.call (gB (g_len _) (kind_of hS rfl)) (EvA.args (EvL.cons (Ev.loc rfl) EvL.nil)) (by exact hlen0 hs0) Kp.blt) EvL.nil)))) rfl (stos_cons (il hS rfl) (stos_cons (il hS rfl) (stos_cons (il hS rfl) stos_nil))) (sw_of hS (by intro e he; cases e; dsimp only at he; subst he; rfl)) (ss_of hS (by intro e he; cases e; dsimp only at he; subst he; rfl)))
 (Ex.cons (Es.expr (Ev.meth (Ev.loc rfl) (EvL.cons Ev.str EvL.nil) (by exact g_end hj hs (by lia)) (Typ.lst (.ref hs0)) rfl rfl rfl rfl (fun q_ q_ q_ q_ q_ h => Calls.evalArgs_plain h)) (in_of hS (by intro e he; cases e; dsimp only at he; subst he; rfl)) rfl)
 (Ex.cons (Es.for (SrcE.of (Ev.loc rfl) (Src.lst (hnv _))) rfl (Fo.runsN 5 (by rw [List.length_map]; exact hn5) (fun q_ => [("table", HdV H), ("read", .ref (H.length + 2)), ("low", .int (pre.length : Nat)), ("hue", .flt (fl (64 * spot))), ("names", NV), ("phrase", .str phrase), ("shelf", .ref js)]) (fun i => GH H js pre ((names.take i).foldl ins []) ((names.take i).map (ballVal phrase)) []) (subs_cons rfl (subs_cons rfl (subs_cons rfl (subs_cons rfl (subs_cons rfl (subs_cons rfl (subs_cons rfl subs_nil))))))) rfl (fun i q_ => hnv _) (fun i v hv => by
   obtain ⟨x, hx, rfl⟩ := strv_at hv
   have hi5 : i < 5 := by have := (List.getElem?_eq_some_iff.mp hx).1; lia
   have hg := hgood x (List.mem_of_getElem? hx)
   have htk : names.take (i + 1) = names.take i ++ [x] := by rw [List.take_add_one, hx]; rfl
   obtain ⟨srow, grow, lrow⟩ := rows_ok (l := names.take i) (fun y hy => hgood y (List.mem_of_mem_take hy))
   have hlt : (names.take i).length = i := by rw [List.length_take]; lia
   rw [hlt] at lrow
   have e1 : (names.take (i + 1)).foldl ins [] = ins ((names.take i).foldl ins []) x := by rw [htk, List.foldl_append]; rfl
   have e2 : (names.take (i + 1)).map (ballVal phrase) = (names.take i).map (ballVal phrase) ++ [ballVal phrase x] := by rw [htk, List.map_append]; rfl
   have hval : Plain (ballVal phrase x).2 := by show Plain (if _ then _ else _); split; exact hph; exact (good_plain (.inl rfl)).1
   have hife : V.str (ballVal phrase x).2 = bif decide (kindOf x = "phrase") then V.str phrase else V.str sEnd := by show V.str (if _ then _ else _) = _; split; rename_i q; rw [decide_eq_true q]; rfl; rename_i q; rw [decide_eq_false q]; rfl
   rw [e1, e2]
   exact Turn.mk (Ast.name (.inr ⟨(il hS rfl), rfl⟩)) (Ex.cons (Es.expr (Ev.hdr (hm_add_header _) (Ev.loc rfl) GH_own (EvA.args (EvL.cons (Ev.loc rfl) (EvL.cons (Ev.ifB (Tst.cmp (Ev.call (gV (g_law_kind _) (kind_of hS rfl)) (EvA.args (EvL.cons (Ev.loc rfl) EvL.nil)) (by exact (fn_kind c _ hg).le (by decide)) (kp_law_kind _)) Ev.str Cmp.eqS) (Ev.loc rfl) Ev.str hife) EvL.nil))) (by exact (g_add (by simp; lia) (good_plain hg).1 hval).le (by decide)) rfl rfl) (in_of hS (by intro e he; cases e; dsimp only at he; subst he; rfl)) rfl)
 (Ex.one (Es.expr (Ev.call (gV (g_insort_right _) (kind_of hS rfl)) (EvA.kw (kv := [("key", _)]) (EvL.cons (Ev.loc rfl) (EvL.cons (Ev.loc rfl) (EvL.cons (Ev.loc rfl) (EvL.cons (Ev.bin (Ev.call (gB (g_len _) (kind_of hS rfl)) (EvA.args (EvL.cons (Ev.loc rfl) EvL.nil)) (by exact gh_len hj (by lia)) Kp.blt) Ev.int (Bin.subE (r := ((pre.length + (names.take i |>.foldl ins []).length : Nat) : Int)) (by lia))) EvL.nil)))) (EvK.cons (gV (g_law_number _) (kind_of hS rfl)) EvK.nil) (fun q_ => rfl) (fun q_ => rfl) (fun q_ => rfl)) (by exact (g_insort hj srow grow hg (by lia)).le (by decide)) (kp_insort_right _)) (in_of hS (by intro e he; cases e; dsimp only at he; subst he; rfl)) rfl))) (subs_cons rfl (subs_cons rfl (subs_cons rfl (subs_cons rfl (subs_cons rfl (subs_cons rfl (subs_cons rfl subs_nil))))))))) (fun q_ q_ => rfl))
 (Ex.cons (Es.assignS (Ev.tup (EvL.cons (Ev.call (gB (g_int _) (kind_of hS rfl)) (EvA.args (EvL.cons (Ev.bin (Ev.loc rfl) (Ev.bin Ev.int Ev.int pow24) (Bin.mulHue hsp.1 hsp.2)) EvL.nil)) (by exact hint _) Kp.typ) (EvL.cons (Ev.bin Ev.int Ev.int pow24) EvL.nil))) rfl (stos_cons (il hS rfl) (stos_cons (il hS rfl) stos_nil)) (sw_of hS (by intro e he; cases e; dsimp only at he; subst he; rfl)) (ss_of hS (by intro e he; cases e; dsimp only at he; subst he; rfl)))
 (ex_places (fun a b => [("above", .int a), ("below", .int b), ("table", HdV H), ("read", .ref (H.length + 2)), ("low", .int (pre.length : Nat)), ("shelf", .ref js)]) (SrcE.of (Ev.call (gB (g_range _) (kind_of hS rfl)) (EvA.args (EvL.cons Ev.int EvL.nil)) (by exact Fn.range1) Kp.typ) (by first | exact Src.tup | exact Src.lst (by (first | exact Lsy.lst | with_reducible assumption | (refine' Lsy.ref ?k1; (case k1 => first | with_reducible assumption | rfl)))) | exact Src.rng (by (first | with_reducible assumption | rfl | decide | omega | (simp; done) | (simp; omega))) (by (first | with_reducible assumption | rfl | decide | omega | (simp; done) | (simp; omega))) (by (first | with_reducible assumption | rfl | decide | omega | (simp; done) | (simp; omega))) (by (first | with_reducible assumption | rfl | decide | omega | (simp; done) | (simp; omega))))) rfl (fun q_ q_ => rfl) (subs_cons rfl (subs_cons rfl (subs_cons rfl (subs_cons rfl (subs_cons rfl (subs_cons rfl subs_nil)))))) (fun k row above below read tab i name hk5 h hi hg hr ht => by
   have ba := below_abs h hk5
   have hlr := h.len
   have l3 := cntLe_len row (numOf name)
   have l4 := cntLt_le row (numOf name)
   have hi' := hi.lt
   exact ⟨fun q => ⟨_, (Ast.name (.inr ⟨(il hS rfl), rfl⟩)), (Ex.cons (Es.assign (Ev.bin (Ev.bin (Ev.call (gB (g_len _) (kind_of hS rfl)) (EvA.args (EvL.cons (Ev.loc rfl) EvL.nil)) (by exact gh_len hj (by lia)) Kp.blt) Ev.int (Bin.subE (r := ((pre.length + row.length : Nat) : Int)) (by lia))) (Ev.loc rfl) (Bin.subE (r := (row.length : Int)) (by lia))) (il hS rfl) rfl)
 (Ex.cons (Es.assign (Ev.sub (Ev.loc rfl) (Ev.bin (Ev.loc rfl) (Ev.bin (Ev.bin (Ev.loc rfl) (Ev.loc rfl) (Bin.mul (mulOk (by lia)))) (Ev.loc rfl) (Bin.fdivE (r := (i : Int)) (by lia) (log_small ba.2.1) (by rw [Int.fdiv_eq_ediv_of_nonneg _ (by lia)]; exact hi.idx.symm))) (Bin.addE (r := ((pre.length + i : Nat) : Int)) (by rfl))) (Itm.lst (.ref (GH_js hj)) (by exact Int.ofNat_nonneg _) (by lia) (shelf_item hi) (fun q_ q_ => rfl))) (il hS rfl) rfl)
 (Ex.cons (Es.expr (Ev.meth (Ev.loc rfl) (EvL.cons (Ev.loc rfl) EvL.nil) (by exact g_read (by lia)) (Typ.lst (.ref GH_read)) rfl rfl rfl rfl (fun q_ q_ q_ q_ q_ h => Calls.evalArgs_plain h)) (in_of hS (by intro e he; cases e; dsimp only at he; subst he; rfl)) rfl)
 (Ex.stop (Es.ifTb (Tst.cmp (Ev.call (gV (g_law_kind _) (kind_of hS rfl)) (EvA.args (EvL.cons (Ev.loc rfl) EvL.nil)) (by exact (fn_kind c _ hg).le (by decide)) (kp_law_kind _)) Ev.str Cmp.eqS) (by rw [kind_end_iff hg]; exact q) (Ex.stop (Es.ret (Ev.tup (EvL.cons (Ev.loc rfl) (EvL.cons (Ev.loc rfl) EvL.nil)))) (by intro _ _ h; cases h))) (by intro _ _ h; cases h)))))⟩, fun q => Turn.mk (Ast.name (.inr ⟨(il hS rfl), rfl⟩)) (Ex.cons (Es.assign (Ev.bin (Ev.bin (Ev.call (gB (g_len _) (kind_of hS rfl)) (EvA.args (EvL.cons (Ev.loc rfl) EvL.nil)) (by exact gh_len hj (by lia)) Kp.blt) Ev.int (Bin.subE (r := ((pre.length + row.length : Nat) : Int)) (by lia))) (Ev.loc rfl) (Bin.subE (r := (row.length : Int)) (by lia))) (il hS rfl) rfl)
 (Ex.cons (Es.assign (Ev.sub (Ev.loc rfl) (Ev.bin (Ev.loc rfl) (Ev.bin (Ev.bin (Ev.loc rfl) (Ev.loc rfl) (Bin.mul (mulOk (by lia)))) (Ev.loc rfl) (Bin.fdivE (r := (i : Int)) (by lia) (log_small ba.2.1) (by rw [Int.fdiv_eq_ediv_of_nonneg _ (by lia)]; exact hi.idx.symm))) (Bin.addE (r := ((pre.length + i : Nat) : Int)) (by lia))) (Itm.lst (.ref (GH_js hj)) (by lia) (by lia) (shelf_item hi) (fun q_ q_ => rfl))) (il hS rfl) rfl)
 (Ex.cons (Es.expr (Ev.meth (Ev.loc rfl) (EvL.cons (Ev.loc rfl) EvL.nil) (by exact g_read (by lia)) (Typ.lst (.ref GH_read)) rfl rfl rfl rfl (fun q_ q_ q_ q_ q_ h => Calls.evalArgs_plain h)) (in_of hS (by intro e he; cases e; dsimp only at he; subst he; rfl)) rfl)
 (Ex.cons (Es.ifFb (Tst.cmp (Ev.call (gV (g_law_kind _) (kind_of hS rfl)) (EvA.args (EvL.cons (Ev.loc rfl) EvL.nil)) (by exact (fn_kind c _ hg).le (by decide)) (kp_law_kind _)) Ev.str Cmp.eqS) (by rw [← Bool.not_eq_true, kind_end_iff hg]; exact q) Ex.nil)
 (Ex.cons (Es.assign (Ev.call (gV (g_bisect_left _) (kind_of hS rfl)) (EvA.kw (kv := [("key", _)]) (EvL.cons (Ev.loc rfl) (EvL.cons (Ev.call (gV (g_law_number _) (kind_of hS rfl)) (EvA.args (EvL.cons (Ev.loc rfl) EvL.nil)) (by exact (fn_number c _ hg).le (by decide)) (kp_law_number _)) (EvL.cons (Ev.loc rfl) (EvL.cons (Ev.bin (Ev.call (gB (g_len _) (kind_of hS rfl)) (EvA.args (EvL.cons (Ev.loc rfl) EvL.nil)) (by exact gh_len hj (by lia)) Kp.blt) Ev.int (Bin.subE (r := ((pre.length + row.length : Nat) : Int)) (by lia))) EvL.nil)))) (EvK.cons (gV (g_law_number _) (kind_of hS rfl)) EvK.nil) (fun q_ => rfl) (fun q_ => rfl) (fun q_ => rfl)) (by exact (left_row c _ (GH_js hj) h.sorted h.good (by lia)).le (by decide)) (kp_bisect_left _)) (il hS rfl) rfl)
 (Ex.cons (Es.assign (Ev.call (gV (g_bisect_right _) (kind_of hS rfl)) (EvA.kw (kv := [("key", _)]) (EvL.cons (Ev.loc rfl) (EvL.cons (Ev.call (gV (g_law_number _) (kind_of hS rfl)) (EvA.args (EvL.cons (Ev.loc rfl) EvL.nil)) (by exact (fn_number c _ hg).le (by decide)) (kp_law_number _)) (EvL.cons (Ev.loc rfl) (EvL.cons (Ev.bin (Ev.call (gB (g_len _) (kind_of hS rfl)) (EvA.args (EvL.cons (Ev.loc rfl) EvL.nil)) (by exact gh_len hj (by lia)) Kp.blt) Ev.int (Bin.subE (r := ((pre.length + row.length : Nat) : Int)) (by lia))) EvL.nil)))) (EvK.cons (gV (g_law_number _) (kind_of hS rfl)) EvK.nil) (fun q_ => rfl) (fun q_ => rfl) (fun q_ => rfl)) (by exact (right_row c _ (GH_js hj) h.sorted h.good (by lia)).le (by decide)) (kp_bisect_right _)) (il hS rfl) rfl)
 (Ex.cons (Es.assignS (Ev.tup (EvL.cons (Ev.bin (Ev.bin (Ev.loc rfl) (Ev.loc rfl) (Bin.mul (mulOk (by lia)))) (Ev.bin (Ev.bin (Ev.loc rfl) (Ev.loc rfl) (Bin.subE (r := (cntLt row (numOf name) : Int)) (by lia))) (Ev.loc rfl) (Bin.mul (mulOk (by lia)))) Bin.sub) (EvL.cons (Ev.bin (Ev.loc rfl) (Ev.bin (Ev.loc rfl) (Ev.loc rfl) (Bin.subE (r := (cntLe row (numOf name) : Int) - cntLt row (numOf name)) (by lia))) (Bin.mul (mulOk (by lia)))) EvL.nil))) rfl (stos_cons (il hS rfl) (stos_cons (il hS rfl) stos_nil)) (sw_of hS (by intro e he; cases e; dsimp only at he; subst he; rfl)) (ss_of hS (by intro e he; cases e; dsimp only at he; subst he; rfl)))
 (Ex.cons (Es.assign (Ev.ifB (Tst.val (Ev.bin (Ev.loc rfl) Ev.int (Bin.fmod (by decide))) Tru.int rfl) (Ev.meth0 (Ev.loc rfl) (by exact Mth.lower (good_plain hg).1.2) (Typ.str) rfl rfl) (Ev.meth0 (Ev.loc rfl) (by exact Mth.upper (good_plain hg).1.2) (Typ.str) rfl rfl) spelt_eq) (il hS rfl) rfl)
 (Ex.cons (Es.expr (Ev.hdr (hm_add_header _) (Ev.loc rfl) GH_own (EvA.args (EvL.cons (Ev.loc rfl) (EvL.cons (Ev.call (gB (g_str _) (kind_of hS rfl)) (EvA.args (EvL.cons (Ev.loc rfl) EvL.nil)) (by exact Fn.strI (log_str hk5)) Kp.typ) EvL.nil))) (by exact (g_add (by lia) (good_plain (spelt_good hg).1).1 (digit_plain hk5)).le (by decide)) rfl rfl) (in_of hS (by intro e he; cases e; dsimp only at he; subst he; rfl)) rfl)
 (Ex.one (Es.expr (Ev.call (gV (g_insort_right _) (kind_of hS rfl)) (EvA.kw (kv := [("key", _)]) (EvL.cons (Ev.loc rfl) (EvL.cons (Ev.loc rfl) (EvL.cons (Ev.loc rfl) (EvL.cons (Ev.bin (Ev.call (gB (g_len _) (kind_of hS rfl)) (EvA.args (EvL.cons (Ev.loc rfl) EvL.nil)) (by exact gh_len hj (by lia)) Kp.blt) Ev.int (Bin.subE (r := ((pre.length + row.length : Nat) : Int)) (by lia))) EvL.nil)))) (EvK.cons (gV (g_law_number _) (kind_of hS rfl)) EvK.nil) (fun q_ => rfl) (fun q_ => rfl) (fun q_ => rfl)) (by exact (g_insort hj h.sorted h.good (spelt_good hg).1 (by lia)).le (by decide)) (kp_insort_right _)) (in_of hS (by intro e he; cases e; dsimp only at he; subst he; rfl)) rfl))))))))))) (subs_cons rfl (subs_cons rfl (subs_cons rfl (subs_cons rfl (subs_cons rfl (subs_cons rfl subs_nil))))))⟩) hstart htab (fun a b K => (Ex.stop (Es.ret (Ev.tup (EvL.cons (Ev.loc rfl) (EvL.cons (Ev.loc rfl) EvL.nil)))) (by intro _ _ h; cases h))))))))
 case hfin => first | exact Fin.ret | exact Fin.next
theorem fn_heard (c : C1) (H : List HObj) {js : Nat} {spot : Int} {pre names : List Str} {phrase : Str} {NV : V} (hsp : 0 ≤ spot ∧ spot < 16777216) (hj : js < H.length) (hs : H[js]? = some (.list (pre.map V.str))) (hlen : pre.length < 900) (hnv0 : ∀ K, Lsy K NV (names.map V.str)) (hn5 : names.length = 5) (hgood : ∀ x ∈ names, Good x) (hph : Plain phrase) :
  Fn c.ct 8 (.val (.ref 301)) [.flt (fl (64 * spot)), NV, .str phrase, .ref js] [] H
   (H.set js (.list (shelfV pre (hear 5 0 (names.foldl ins []) spot 16777216 [] (names.map (ballVal phrase))).2.2)) ++ [.sem (ownA HX (H.length + 1)), .list (pairsV (hear 5 0 (names.foldl ins []) spot 16777216 [] (names.map (ballVal phrase))).2.1)])
   (.tup [.lst ((hear 5 0 (names.foldl ins []) spot 16777216 [] (names.map (ballVal phrase))).1.map V.str), HdV H]) := by
 have h := heard_core c H hsp hj hs hlen hnv0 hn5 hgood hph
 rw [List.take_of_length_le (by lia)] at h
 generalize hear 5 0 (names.foldl ins []) spot 16777216 [] (names.map (ballVal phrase)) = R at h
 unfold GH at h
 have e : H.set js (.list (shelfV pre R.2.2)) ++ [.sem (ownA HX (H.length + 1)), .list (pairsV R.2.1), .list (R.1.map V.str)] = (H.set js (.list (shelfV pre R.2.2)) ++ [.sem (ownA HX (H.length + 1)), .list (pairsV R.2.1)]) ++ [.list (R.1.map V.str)] := by simp
 rw [e] at h
 refine Fn.shed h (by simp) (.tup (.cons (.lst (by rw [List.getElem?_append_right (by simp)]; simp) (by simp)) (.cons (.sem (by show H.length + 1 ≤ _; simp)) .nil))) (fun hc => ?_)
 have h1 := cl_set (i := js) (l := shelfV pre R.2.2) hc
 intro i P e
 rcases Nat.lt_or_ge i (H.set js (.list (shelfV pre R.2.2))).length with q | q
 ·rw [List.getElem?_append_left q] at e
  exact Nat.le_trans (h1 i P e) (by simp)
 ·rw [List.getElem?_append_right q] at e
  have : i - (H.set js (.list (shelfV pre R.2.2))).length = 0 ∨ i - (H.set js (.list (shelfV pre R.2.2))).length = 1 ∨ 2 ≤ i - (H.set js (.list (shelfV pre R.2.2))).length := by lia
  rcases this with z | z | z
  ·rw [z] at e; cases e; show H.length + 1 + 1 ≤ _; simp
  ·rw [z] at e; cases e
  ·rw [List.getElem?_eq_none (by simp only [List.length_cons, List.length_nil]; omega)] at e; cases e
noncomputable abbrev sSp : Str := Str.ofString " "
noncomputable abbrev tokB (P : Params) (x : Str) : Bool := (findBy Value.isStrOf (EXT P) x).isSome
noncomputable def headOf (x : Str) (n : Int) : Str := Txt.slice x none (some n)
noncomputable def tailOf (x : Str) (n : Int) : Str := Txt.slice x (some n) none
noncomputable def sizeIn (P : Params) (x : Str) : Int := if tokB P (headOf x 3) then 3 else if tokB P (headOf x 2) then 2 else 1
inductive Cuts (P : Params) : Str → List Int → Nat → Prop
 | done : Cuts P sEnd [] 0
 | tok {x : Str} {i : Int} {t : Tok} {ns : List Int} {k : Nat} : x ≠ sEnd → headOf x (sizeIn P x) ≠ sSp → findBy Value.isStrOf (EXT P) (headOf x (sizeIn P x)) = some (.int i t) → Cuts P (tailOf x (sizeIn P x)) ns k → Cuts P x (i :: ns) (k + 1)
 | space {x : Str} {ns : List Int} {k : Nat} : x ≠ sEnd → headOf x (sizeIn P x) = sSp → Cuts P (tailOf x (sizeIn P x)) ns k → Cuts P x ns (k + 1)
theorem Cuts.len {P : Params} {x : Str} {ns : List Int} {k : Nat} (h : Cuts P x ns k) : ns.length ≤ k := by
 induction h with
 | done => exact Nat.le_refl _
 | tok _ _ _ _ ih => simp; omega
 | space _ _ _ ih => lia
noncomputable def SC (H : List HObj) (x : Str) : Loc := [(Str.ofString "text", .str x), (Str.ofString "numbers", .ref H.length)]
theorem es_cut {P : Params} {C : Ct} {n : Nat} {env : Env} {test : PySem.Expr} {body : List PySem.Stmt} {pos : Pos} {σ : Loc} {H : List HObj} {x : Str} {ns : List Int} {k : Nat} (hc : Cuts P x ns k) (hx : x.length ≤ 100000) (hk : k ≤ 1000)
  (hsub : ∀ y u, (SC H x).lookup y = some u → σ.lookup y = some u)
  (ht : ∀ x K, Tst C n env (SC H x) K test K (!decide (x = sEnd)))
  (t1 : ∀ (x : Str) (acc : List Int) (i : Int) (t : Tok), x.length ≤ 100000 → acc.length ≤ 1000 → headOf x (sizeIn P x) ≠ sSp → findBy Value.isStrOf (EXT P) (headOf x (sizeIn P x)) = some (.int i t) →
   ∃ σ1, Ex C n env (SC H x) (H ++ [.list (acc.map V.int)]) body (.next σ1 (H ++ [.list ((acc ++ [i]).map V.int)])) ∧ ∀ y u, (SC H (tailOf x (sizeIn P x))).lookup y = some u → σ1.lookup y = some u)
  (t2 : ∀ (x : Str) (acc : List Int), x.length ≤ 100000 → acc.length ≤ 1000 → headOf x (sizeIn P x) = sSp →
   ∃ σ1, Ex C n env (SC H x) (H ++ [.list (acc.map V.int)]) body (.next σ1 (H ++ [.list (acc.map V.int)])) ∧ ∀ y u, (SC H (tailOf x (sizeIn P x))).lookup y = some u → σ1.lookup y = some u) :
  Es C n env σ (H ++ [.list []]) (.While test body [] pos) (.next (SC H sEnd) (H ++ [.list (ns.map V.int)])) := by
 have key : ∀ {x : Str} {ns : List Int} {k : Nat}, Cuts P x ns k → ∀ acc : List Int, x.length ≤ 100000 → acc.length + k ≤ 1000 → Wh C n env test body k (SC H x) (H ++ [.list (acc.map V.int)]) (.next (SC H sEnd) (H ++ [.list ((acc ++ ns).map V.int)])) := by
  intro x ns k h
  induction h with
  | done =>
   intro acc _ _
   rw [List.append_nil]
   have t := ht sEnd (H ++ [.list (acc.map V.int)])
   rw [decide_eq_true rfl] at t
   exact .stop t
  | @tok x i t ns k hne h1 h2 _ ih =>
   intro acc hx ha
   obtain ⟨σ1, e1, e2⟩ := t1 x acc i t hx (by lia) h1 h2
   have tt := ht x (H ++ [.list (acc.map V.int)])
   rw [decide_eq_false hne] at tt
   have := ih (acc ++ [i]) (Nat.le_trans (Txt.slice_le _ _ _) hx) (by simp; lia)
   rw [List.append_assoc] at this
   exact .turn tt e1 (.weak e2 this)
  | @space x ns k hne h1 _ ih =>
   intro acc hx ha
   obtain ⟨σ1, e1, e2⟩ := t2 x acc hx (by lia) h1
   have tt := ht x (H ++ [.list (acc.map V.int)])
   rw [decide_eq_false hne] at tt
   exact .turn tt e1 (.weak e2 (ih acc (Nat.le_trans (Txt.slice_le _ _ _) hx) (by exact Nat.le_of_lt (by assumption))))
 exact Es.while (.weak hsub (key hc [] hx (by simpa using hk)))
theorem size_max {P : Params} {x : Str} : sizeIn P x ∈ 1 :: ([2, 3].filter fun n : Int => tokB P (headOf x n)) ∧ ∀ m ∈ 1 :: ([2, 3].filter fun n : Int => tokB P (headOf x n)), m ≤ sizeIn P x := by
 unfold sizeIn
 cases h3 : tokB P (headOf x 3) <;> cases h2 : tokB P (headOf x 2) <;> simp [h2, h3]
theorem augL {C : Ct} {n : Nat} {H : List HObj} {acc l' : List Int} {u : V} (hi : (H ++ [HObj.list (acc.map V.int)])[H.length]? = some (.list (acc.map V.int))) (h2 : Lsy (H ++ [HObj.list (acc.map V.int)]) u (l'.map V.int)) (hd : datL (l'.map V.int) = true) (hl : acc.length ≤ 1000 ∧ l'.length ≤ 10) :
  Aug C n .Add (.ref H.length) u (H ++ [HObj.list (acc.map V.int)]) (H ++ [HObj.list ((acc ++ l').map V.int)]) (.ref H.length) := by
 have h := Aug.addL (C := C) (n := n) hi h2 hd (by apply le_size; simp; lia)
 have e : (H ++ [HObj.list (acc.map V.int)]).set H.length (.list (acc.map V.int ++ l'.map V.int)) = H ++ [HObj.list ((acc ++ l').map V.int)] := by
  rw [List.set_append_right _ _ (Nat.le_refl _), Nat.sub_self, List.map_append]; rfl
 rw [e] at h
 exact h
theorem exEq {C : Ct} {n : Nat} {env : Env} {σ σ1 : Loc} {H H1 H2 : List HObj} {body : List PySem.Stmt} (e : H1 = H2) (h : Ex C n env σ H body (.next σ1 H1)) : Ex C n env σ H body (.next σ1 H2) := e ▸ h
theorem cut_core (c : C1) (H : List HObj) {x : Str} {ns : List Int} {k : Nat} (hcut : Cuts c.w.params x ns k) (hx : x.length ≤ 100000) (hk : k ≤ 1000) : Fn c.ct 3 (.val (.ref 287)) [.str x] [] H (H ++ [.list (ns.map V.int)]) (.ref H.length) := by
 refine' fnOf (ns := [Str.ofString "text"]) (vs := [.str x]) (o := .ret (.ref H.length) (H ++ [.list (ns.map V.int)])) ?ho ?hb ?hst ?hcd ?hns ?hnd ?hbind ?hbody ?hfin
 walk_at "t_of"
 case hbind => exact bind1 fun q_ => Looks.of_pure rfl
 case hbody =>
  intro env hS; dsimp only at hS
  exact (Ex.cons (Es.assign (Ev.lstT EvL.nil (Nat.le_of_ble_eq_true rfl) (by rfl)) (il hS rfl) rfl)
 (Ex.cons (es_cut hcut hx hk (subs_cons rfl (subs_cons rfl subs_nil)) (fun x K => (Tst.cmp (Ev.loc rfl) Ev.str Cmp.neS)) (fun x acc i t hx ha hs hf => ⟨_, (by
   have hi : (H ++ [HObj.list (acc.map V.int)])[H.length]? = some (.list (acc.map V.int)) := by simp
   exact (Ex.cons (Es.assign (Ev.call (gB (g_max _) (kind_of hS rfl)) (EvA.args (EvL.cons (Ev.bin (Ev.lst (EvL.cons Ev.int EvL.nil)) (Ev.compS hS (SrcE.of (Ev.tup (EvL.cons Ev.int (EvL.cons Ev.int EvL.nil))) Src.tup) rfl (fun q_ => trivial) (by kernel_rfl) (fun cenv hC1 => (Co.pick (l := [2, 3]) (f := fun n : Int => V.int n) (p := fun n => tokB c.w.params (headOf x n)) (g := fun n => V.int n) (fun n hn => ⟨_, (fun K => (Ast.name (.inl ⟨kind_of hC1 rfl, rfl⟩))), (fun K => (TstL.one (Tst.cmp (Ev.sliceS (Ev.loc rfl) EvP.none (EvP.some (Ev.loc rfl)) (le_size (by lia)) (fun q_ q_ => ⟨_, rfl⟩)) (gV (g_EXACT_TOKEN_TYPES _) (kind_of hC1 rfl)) (Cmp.inDict (ext_top _) rfl)))), (fun q_ => ⟨(fun K => (Ev.loc rfl)), rfl⟩), (sub_cons rfl)⟩))) (Nat.le_of_ble_eq_true rfl) (fun q_ q_ => rfl) (Nat.le_refl _)) (Bin.addL (l := [1].map V.int) (l' := ([2, 3].filter fun n : Int => tokB c.w.params (headOf x n)).map V.int) Lsy.lst Lsy.lst (by apply le_size; have := List.length_filter_le (fun n : Int => tokB c.w.params (headOf x n)) [2, 3]; simp at this ⊢; lia))) EvL.nil)) (by exact Fn.maxL (ns := 1 :: ([2, 3].filter fun n : Int => tokB c.w.params (headOf x n))) Lsy.lst size_max.1 size_max.2) Kp.blt) (il hS rfl) rfl)
 (Ex.cons (Es.aug rfl (by decide) (Ev.ifTb (Tst.cmp (Ev.sliceS (Ev.loc rfl) EvP.none (EvP.some (Ev.loc rfl)) (le_size (by lia)) (fun q_ q_ => ⟨_, rfl⟩)) Ev.str Cmp.neS) (by show (!decide (headOf x (sizeIn c.w.params x) = sSp)) = true; rw [decide_eq_false hs]; rfl) (Ev.lst (EvL.cons (Ev.sub (gV (g_EXACT_TOKEN_TYPES _) (kind_of hS rfl)) (Ev.sliceS (Ev.loc rfl) EvP.none (EvP.some (Ev.loc rfl)) (le_size (by lia)) (fun q_ q_ => ⟨_, rfl⟩)) (Itm.dict (ext_top _) hf (fun q_ => VRel.int _ _) (fun q_ q_ => rfl))) EvL.nil))) (augL (l' := [i]) hi Lsy.lst rfl ⟨ha, by simp⟩) (il hS rfl))
 (Ex.one (Es.assign (Ev.sliceS (Ev.loc rfl) (EvP.some (Ev.loc rfl)) EvP.none (le_size (by lia)) (fun q_ q_ => ⟨_, rfl⟩)) (.inr (kind_of hS rfl)) rfl))))), (subs_cons rfl (subs_cons rfl subs_nil))⟩) (fun x acc hx ha hs => ⟨_, (by
   have hi : (H ++ [HObj.list (acc.map V.int)])[H.length]? = some (.list (acc.map V.int)) := by simp
   exact exEq (by rw [List.append_nil]) (Ex.cons (Es.assign (Ev.call (gB (g_max _) (kind_of hS rfl)) (EvA.args (EvL.cons (Ev.bin (Ev.lst (EvL.cons Ev.int EvL.nil)) (Ev.compS hS (SrcE.of (Ev.tup (EvL.cons Ev.int (EvL.cons Ev.int EvL.nil))) Src.tup) rfl (fun q_ => trivial) (by kernel_rfl) (fun cenv hC2 => (Co.pick (l := [2, 3]) (f := fun n : Int => V.int n) (p := fun n => tokB c.w.params (headOf x n)) (g := fun n => V.int n) (fun n hn => ⟨_, (fun K => (Ast.name (.inl ⟨kind_of hC2 rfl, rfl⟩))), (fun K => (TstL.one (Tst.cmp (Ev.sliceS (Ev.loc rfl) EvP.none (EvP.some (Ev.loc rfl)) (le_size (by lia)) (fun q_ q_ => ⟨_, rfl⟩)) (gV (g_EXACT_TOKEN_TYPES _) (kind_of hC2 rfl)) (Cmp.inDict (ext_top _) rfl)))), (fun q_ => ⟨(fun K => (Ev.loc rfl)), rfl⟩), (sub_cons rfl)⟩))) (Nat.le_of_ble_eq_true rfl) (fun q_ q_ => rfl) (Nat.le_refl _)) (Bin.addL (l := [1].map V.int) (l' := ([2, 3].filter fun n : Int => tokB c.w.params (headOf x n)).map V.int) Lsy.lst Lsy.lst (by apply le_size; have := List.length_filter_le (fun n : Int => tokB c.w.params (headOf x n)) [2, 3]; simp at this ⊢; lia))) EvL.nil)) (by exact Fn.maxL (ns := 1 :: ([2, 3].filter fun n : Int => tokB c.w.params (headOf x n))) Lsy.lst size_max.1 size_max.2) Kp.blt) (il hS rfl) rfl)
 (Ex.cons (Es.aug rfl (by decide) (Ev.ifFb (Tst.cmp (Ev.sliceS (Ev.loc rfl) EvP.none (EvP.some (Ev.loc rfl)) (le_size (by lia)) (fun q_ q_ => ⟨_, rfl⟩)) Ev.str Cmp.neS) (by show (!decide (headOf x (sizeIn c.w.params x) = sSp)) = false; rw [decide_eq_true hs]; rfl) (Ev.lst EvL.nil)) (augL (l' := []) hi Lsy.lst rfl ⟨ha, by simp⟩) (il hS rfl))
 (Ex.one (Es.assign (Ev.sliceS (Ev.loc rfl) (EvP.some (Ev.loc rfl)) EvP.none (le_size (by lia)) (fun q_ q_ => ⟨_, rfl⟩)) (.inr (kind_of hS rfl)) rfl))))), (subs_cons rfl (subs_cons rfl subs_nil))⟩))
 (Ex.stop (Es.ret (Ev.loc rfl)) (by intro _ _ h; cases h))))
 case hfin => first | exact Fin.ret | exact Fin.next
theorem fn_cut (c : C1) (H : List HObj) {x : Str} {ns : List Int} {k : Nat} (hcut : Cuts c.w.params x ns k) (hx : x.length ≤ 100000) (hk : k ≤ 1000) : Fn c.ct 3 (.val (.ref 287)) [.str x] [] H H (.lst (ns.map V.int)) :=
 Fn.shed (cut_core c H hcut hx hk) (Nat.le_refl _) (.lst (by simp) (Nat.le_refl _)) id
section
theorem codeHd_of {C : C1} {c P : Addr} {od : Option Addr} {osl : Array (Option Value)} {vs : Array Value} {file : Str} {tf tg tt : Tok} {flags text : Int} {inF : Bool} (h : (hd01.heap_39 C.w.params).lookup c = some ⟨.type "code", od, .fields vs, osl⟩) (h1 : vs[11]? = some (.ref P)) (h2 : vs.getD 18 .none = .str file tf) (h3 : vs.getD 7 .none = .int flags tg) (h4 : vs.getD 9 .none = .bool inF) (h5 : vs.getD 10 .none = .int text tt) (h6 : c ≠ P) : CodeHd C.h₀ c P :=
 ⟨_, vs, file, tf, flags, tg, inF, text, tt, C.X _ _ h, rfl, rfl, h1, by simp [Array.getD_eq_getD_getElem?, h1], h2, h3, h4, h5, h6⟩
theorem hd_right (c : C1) : CodeHd c.h₀ 305 303 := by
 refine' codeHd_of (C := c) ?k1 ?k2 ?k3 ?k4 ?k5 ?k6 ?k7
 case k1 => k_is
 case k2 => rfl
 case k3 => rfl
 case k4 => rfl
 case k5 => rfl
 case k6 => rfl
 case k7 => decide
theorem hd_ranked (c : C1) : CodeHd c.h₀ 319 315 := by
 refine' codeHd_of (C := c) ?k1 ?k2 ?k3 ?k4 ?k5 ?k6 ?k7
 case k1 => k_is
 case k2 => rfl
 case k3 => rfl
 case k4 => rfl
 case k5 => rfl
 case k6 => rfl
 case k7 => decide
theorem dat_strs : ∀ (l : List Str), datL (l.map V.str) = true
 | [] => rfl
 | x :: l => dat_strs l
theorem dat_ints : ∀ (l : List Int), datL (l.map V.int) = true
 | [] => rfl
 | x :: l => dat_ints l
section
variable {C : Ct} {n : Nat} {env : Env} {σ σ' σ1 : Loc} {H H' H0 H1 H2 H3 : List HObj} {pos p0 pos' apos p : Pos} {k : Nat} {x y name id : Str} {v v1 v2 v3 u f : V} {e e1 e2 e3 : PySem.Expr} {i j : Nat}
theorem lam_ref {h₀ : Heap} {q : Str} {params : Arguments} {body : PySem.Expr} {scope : Scope} {caps : List (Str × V)} {m : Nat} {hm : caps.all (fun p => p.2.lowOk m) = true} : ∀ (w : Wd) g, VRel w (.sem (lamA h₀ q params body scope caps m hm)) g → ∃ q, g = .ref q := fun w g r => by
 have h := r.inv
 obtain ⟨f, c, ctv, pm, clos, rfl, _⟩ := h
 exact ⟨f, rfl⟩
theorem getD_strs {l : List Str} {i : Nat} (h : i < l.length) : (l.map V.str).getD i .none = .str (l.getD i sEnd) := by simp [h]
theorem getD_ints {l : List Int} {i : Nat} (h : i < l.length) : (l.map V.int).getD i .none = .int (l.getD i 0) := by simp [h]
theorem Fn.sortedStrs {names row : List Str} {L : List Int} (h : Lsy H u (names.map .str)) (hg : ∀ (w : Wd) g, VRel w f g → ∃ q, g = .ref q) (hn : names.length < 64) (hkl : L.length = names.length)
  (hkey : ∀ K (i : Nat) x z, names[i]? = some x → L[i]? = some z → Fn C n f [.str x] [] (H ++ K) (H ++ K) (.int z))
  (hout : ∀ p, Pre names.length names.length p → Asc (fun i => L.getD i 0) names.length p → row = p.toList.map fun i => names.getD i sEnd) :
  Fn C (n + 2) (.val (.builtin "sorted")) [u] [(Str.ofString "key", f)] H H (.lst (row.map .str)) := by
 refine Fn.sorted (l := names.map .str) (ks := L.map .int) (κ := oneType') (rk := fun i => L.getD i 0) (Col.list h (by simp; exact le_size (by lia))) hg (by simpa using hn) (dat_strs _) (dat_ints _) (by simpa using hkl)
  (fun K i v kv hv hkv => ?_) (fun q => KeyKind.int (by simpa using q)) (fun K i j hi hj => ?_) (fun p P A => ?_) (dat_strs _)
 ·obtain ⟨x, hx, rfl⟩ := strv_at hv
  rw [List.getElem?_map] at hkv
  cases q : L[i]? with
  | none => rw [q] at hkv; cases hkv
  | some z => rw [q] at hkv; cases hkv; exact hkey K i x z hx q
 ·rw [List.length_map] at hi hj
  rw [getD_ints (by lia), getD_ints (by lia)]
  exact KeyLt.int
 ·rw [List.length_map] at P A
  rw [hout p P A, List.map_map]
  exact List.map_congr_left fun i hi => (getD_strs (pre_mem P i hi)).symm
theorem Co.mapS {target elt : PySem.Expr} {cenv : Env} {α : Type} {f : α → V} {g : α → Str} {l : List α} (h : ∀ a ∈ l, ∃ σ0, (∀ K, Ast C n cenv [cenv.locals] target (f a) σ (H ++ K) σ0) ∧ (∀ K, Ev C n cenv σ0 (H ++ K) elt (H ++ K) (.str (g a))) ∧ (∀ x v, σ.lookup x = some v → σ0.lookup x = some v)) :
  Co C n cenv target [] elt σ H (l.map f) ((l.map g).map V.str) := by
 rw [List.map_map]
 exact Co.map (g := V.str ∘ g) fun a m => let ⟨σ0, h1, h2, h3⟩ := h a m; ⟨σ0, h1, h2, rfl, h3⟩
theorem Co.mapI {target elt : PySem.Expr} {cenv : Env} {α : Type} {f : α → V} {g : α → Int} {l : List α} (h : ∀ a ∈ l, ∃ σ0, (∀ K, Ast C n cenv [cenv.locals] target (f a) σ (H ++ K) σ0) ∧ (∀ K, Ev C n cenv σ0 (H ++ K) elt (H ++ K) (.int (g a))) ∧ (∀ x v, σ.lookup x = some v → σ0.lookup x = some v)) :
  Co C n cenv target [] elt σ H (l.map f) ((l.map g).map V.int) := by
 rw [List.map_map]
 exact Co.map (g := V.int ∘ g) fun a m => let ⟨σ0, h1, h2, h3⟩ := h a m; ⟨σ0, h1, h2, rfl, h3⟩
theorem Co.pickS {target elt : PySem.Expr} {ifs : List PySem.Expr} {cenv : Env} {α : Type} {f : α → V} {g : α → Str} {p : α → Bool} {l : List α}
  (h : ∀ a ∈ l, ∃ σ0, (∀ K, Ast C n cenv [cenv.locals] target (f a) σ (H ++ K) σ0) ∧ (∀ K, TstL C n cenv σ0 (H ++ K) ifs (p a)) ∧ (p a = true → ∀ K, Ev C n cenv σ0 (H ++ K) elt (H ++ K) (.str (g a))) ∧ (∀ x v, σ.lookup x = some v → σ0.lookup x = some v)) :
  Co C n cenv target ifs elt σ H (l.map f) (((l.filter p).map g).map V.str) := by
 rw [List.map_map]
 exact Co.pick (g := V.str ∘ g) fun a m => let ⟨σ0, h1, h2, h3, h4⟩ := h a m; ⟨σ0, h1, h2, fun q => ⟨h3 q, rfl⟩, h4⟩
theorem Tst.eqb {b b' : Bool} (h : Tst C n env σ H e H1 b) (q : b = b') : Tst C n env σ H e H1 b' := q ▸ h
theorem SrcE.eql {Ok : List HObj → Prop} {T : PySem.Expr → Bool} {l l' : List V} (h : SrcE C n env σ H e H1 Ok T l) (q : l = l') : SrcE C n env σ H e H1 Ok T l' := q ▸ h
theorem Cmp.neSameS {α : Type} {g : α → Str} {L L' : List α} (h : L.map g = L'.map g) (hu : u = .lst (L.map fun a => V.str (g a))) (hv : v = .lst ((L'.map g).map V.str)) : Cmp C n .NotEq u v H false := by
 subst hu hv
 have := Cmp.neStrs (C := C) (n := n) (H := H) (u := .lst (L.map fun a => V.str (g a))) (v := .lst ((L'.map g).map V.str)) (xs := L.map g) (ys := L'.map g) (by rw [List.map_map]; exact Lsy.lst) Lsy.lst
 rw [decide_eq_true h] at this
 exact this
theorem enum_ints {α : Type} {r : α → Nat} {l : List α} : enumV ((l.map fun x => (r x : Int)).map V.int) = l.zipIdx.map fun q => .tup [.int (q.2 : Int), .int (r q.1 : Int)] := by
 unfold enumV
 rw [List.zipIdx_map, List.zipIdx_map, List.map_map, List.map_map]
 rfl
theorem augPairs {p1 p2 : List (Str × Str)} (h2 : Lsy (H ++ [HObj.list (pairsV p1)]) u (pairsV p2)) (hl : p1.length + p2.length ≤ 1000) : Aug C n .Add (.ref H.length) u (H ++ [HObj.list (pairsV p1)]) (H ++ [HObj.list (pairsV (p1 ++ p2))]) (.ref H.length) := by
 have hd : ∀ l : List (Str × Str), datL (pairsV l) = true := fun l => by
  unfold pairsV
  induction l with
  | nil => rfl
  | cons a l ih => exact ih
 have h := Aug.addL (C := C) (n := n) (i := H.length) (l := pairsV p1) (H := H ++ [HObj.list (pairsV p1)]) (by simp) h2 (hd _) (by apply le_size; simp [pairsV]; lia)
 have e : (H ++ [HObj.list (pairsV p1)]).set H.length (.list (pairsV p1 ++ pairsV p2)) = H ++ [HObj.list (pairsV (p1 ++ p2))] := by
  rw [List.set_append_right _ _ (Nat.le_refl _), Nat.sub_self]; unfold pairsV; rw [List.map_append]; rfl
 rw [e] at h
 exact h
end
noncomputable def RkOk (order : List Str) (x : Str) (r : Nat) : Prop := order[r]? = some x ∧ ∀ i, i < r → order[i]? ≠ some x
noncomputable abbrev sQ : Str := Str.ofString "q"
noncomputable abbrev sOp : Str := Str.ofString "operator"
noncomputable def tabOf (names read : List Str) (phrase : Str) (rk : Str → Nat) : List (Str × Str) :=
 names.map (fun x => (x, if Txt.lower x = sP then phrase else sEnd)) ++ (read.zipIdx.filter fun q => rk q.1 != 0).map fun q => (spelt q.2 (Txt.lower q.1), ((toString (q.2 : Int) : String) : Str))
noncomputable def dueOf (read : List Str) (rk : Str → Nat) (W : Str → Str) : Str := Txt.join (Str.ofString " ") ((read.filter fun x => rk x != 0).map W)
structure RightOk (P : Params) (read names order told : List Str) (phrase : Str) (tab : List (Str × Str)) (rk : Str → Nat) (W : Str → Str) (ps : List Str) (ti : Str → Nat) (k : Nat) (row : List Str) : Prop where
 tabOk : tab = tabOf names read phrase rk
 good : ∀ x ∈ read, Good x
 goodN : ∀ x ∈ names, Good x
 goodT : ∀ q ∈ tab, Good q.1
 rkOk : ∀ x ∈ read, RkOk order (Txt.lower x) (rk x)
 rkT : ∀ q ∈ tab, RkOk order (Txt.lower q.1) (rk q.1)
 noq : ∀ q ∈ tab, Txt.lower q.1 ≠ Txt.lower sQ
 ord : ∀ x ∈ order, Good x ∧ Txt.lower (Txt.swapcase x) = x
 ne0 : ∀ x ∈ read, (rk x = 0 ↔ x = sEnd)
 op : ∀ x ∈ read, x ≠ sEnd → kindOf x = sOp → W x = x
 get : ∀ x ∈ read, x ≠ sEnd → kindOf x ≠ sOp → ∃ a, tab.find? (fun q => decide (Txt.lower q.1 = Txt.lower (Txt.swapcase x))) = some a ∧ a.2 = W x
 lt : ∀ x ∈ read, x ≠ sEnd → rk x < 4 → Txt.lower x = W x
 ge : ∀ x ∈ read, x ≠ sEnd → ¬ rk x < 4 → phrase = W x
 wlen : ∀ x ∈ read, (W x).length ≤ 100
 cuts : Cuts P (dueOf read rk W) (ps.map fun s => 7 + (ti s : Int)) k
 kle : k ≤ 1000
 words : Txt.words (dueOf read rk W) = ps
 tiOk : ∀ s ∈ ps, RkOk told s (ti s)
 rowOk : ∀ p, Pre tab.length tab.length p → Asc (fun i => (tab.map fun q => (rk q.1 : Int)).getD i 0) tab.length p → row = p.toList.map fun i => (tab.map (·.1)).getD i sEnd
 jlen : (((read.filter fun x => rk x != 0).map W).map (·.length)).sum + ((read.filter fun x => rk x != 0).map W).length * (Str.ofString " ").length ≤ 16777216
 dlen : (dueOf read rk W).length ≤ 100000
 slen : (Builtin.Str.spaceWords (dueOf read rk W) ((dueOf read rk W).length + 1)).length ≤ sizeLine
 lr : read.length ≤ 10
 ln : names.length ≤ 10
 lo : order.length ≤ 10
 lt' : told.length ≤ 100
theorem RkOk.lt {order : List Str} {x : Str} {r : Nat} (h : RkOk order x r) : r < order.length := (List.getElem?_eq_some_iff.mp h.1).1
theorem str_if {P : Prop} [Decidable P] {a b : Str} : V.str (if P then a else b) = bif decide P then V.str a else V.str b := by
 by_cases h : P
 ·rw [if_pos h, decide_eq_true h]; rfl
 ·rw [if_neg h, decide_eq_false h]; rfl
theorem low_len {x : Str} (h : Good x) : (Txt.lower x).length ≤ 100000 := (good_plain (good_case h).2.1.1).1.2
theorem swap_len {x : Str} (h : Good x) : (Txt.swapcase x).length ≤ 100000 := (good_plain (good_case h).2.2.1).1.2
theorem plain_ls {x : Str} (h : Good x) : Plain (Txt.lower (Txt.swapcase x)) := (good_plain (good_case (good_case h).2.2.1).2.1.1).1
theorem low_low {x : Str} (h : Good x) : Txt.lower (Txt.lower x) = Txt.lower x := by
 rcases h with rfl | h | rfl | rfl
 ·decide +kernel
 ·have := List.all_eq_true.mp told_plain x h
  simp only [Bool.and_eq_true, beq_iff_eq] at this
  rw [this.1.2, this.1.2]
 ·decide +kernel
 ·decide +kernel
theorem spelt_low {x : Str} {k : Nat} (h : Good x) : V.str (spelt k (Txt.lower x)) = bif ((k : Int).fmod 2 != 0) then V.str (Txt.lower x) else V.str (Txt.upper (Txt.lower x)) := by
 rw [spelt_eq, low_low h]
theorem ne_cast {r : Nat} : ((r : Int) != 0) = (r != 0) := by
 rw [Bool.eq_iff_iff, bne_iff_ne, bne_iff_ne]; lia
theorem mem_of_zip {α : Type} {l : List α} {w : α × Nat} (h : w ∈ l.zipIdx) : w.1 ∈ l := by
 have := List.mem_zipIdx h
 rw [this.2.2]; exact List.getElem_mem _
theorem zip_lt {α : Type} {l : List α} {w : α × Nat} (h : w ∈ l.zipIdx) : w.2 < l.length := by
 have := List.mem_zipIdx h
 omega
theorem log_str' {k : Nat} (h : k < 1000) : ((k : Int)).natAbs.log2 < 1920 := by
 by_cases q : ((k : Int)).natAbs = 0
 ·rw [q]; decide
 ·have : ((k : Int)).natAbs < 2 ^ 10 := by omega
  have := (Nat.log2_lt q).mpr this; lia
theorem pv_len {l : List (Str × Str)} : (pairsV l).length = l.length := by simp [pairsV]
theorem pairs_last {H : List HObj} {l : List (Str × Str)} : (H ++ [HObj.list (pairsV l)])[H.length]? = some (.list (pairsV l)) := by simp
theorem plain_q : Plain (Txt.lower sQ) := plain_of (by decide +kernel) (by decide +kernel)
theorem len_zero {x : Str} (h : x.length = 0) : x = sEnd := by
 refine Str.eq_of (x := x) (y := sEnd) ?_
 have : x.cps.toList.length = 0 := h
 rw [List.length_eq_zero_iff.mp this]; rfl
theorem ne_len {x : Str} {r : Nat} (h : r = 0 ↔ x = sEnd) : ((x.length : Int) != 0) = (r != 0) := by
 rw [Bool.eq_iff_iff, bne_iff_ne, bne_iff_ne]
 constructor
 ·intro z e; rw [h.mp e] at z; exact z rfl
 ·intro z e
  exact z (h.mpr (len_zero (by lia)))
theorem row_item {tab : List (Str × Str)} {rk : Str → Nat} {i : Nat} {x : Str} {z : Int} (h : (tab.map (·.1))[i]? = some x) (h' : (tab.map fun w => (rk w.1 : Int))[i]? = some z) : ∃ w ∈ tab, x = w.1 ∧ z = (rk w.1 : Int) := by
 rw [List.getElem?_map] at h h'
 cases q : tab[i]? with
 | none => rw [q] at h; cases h
 | some w => rw [q] at h h'; cases h; cases h'; exact ⟨w, List.mem_of_getElem? q, rfl, rfl⟩
theorem cap_ok {x : Str} {l : List Str} : [(x, V.lst (l.map V.str))].all (fun p => p.2.lowOk 0) = true := by
 show (datL (l.map V.str) && true) = true
 rw [dat_strs]; rfl
theorem all_strs (l : List Str) : [V.lst (l.map V.str)].all V.pl = true := by
 show (datL (l.map V.str) && true) = true
 rw [dat_strs]; rfl
section
variable {P : Params} {read names order told : List Str} {phrase : Str} {tab : List (Str × Str)} {rk : Str → Nat} {W : Str → Str} {ps : List Str} {ti : Str → Nat} {k : Nat} {row : List Str} (q : RightOk P read names order told phrase tab rk W ps ti k row)
include q
theorem ne_of {x : Str} (hx : x ∈ read) (h : (rk x != 0) = true) : x ≠ sEnd := fun z => (bne_iff_ne.mp h) ((q.ne0 x hx).mpr z)
theorem tab_parts : (names.map (fun x => (x, if Txt.lower x = sP then phrase else sEnd))).length + ((read.zipIdx.filter fun q => rk q.1 != 0).map fun q => (spelt q.2 (Txt.lower q.1), ((toString (q.2 : Int) : String) : Str))).length ≤ 20 := by
 rw [List.length_map, List.length_map]
 have h1 := List.length_filter_le (fun q : Str × Nat => rk q.1 != 0) read.zipIdx
 rw [List.length_zipIdx] at h1
 have := q.lr
 have := q.ln
 lia
theorem tab_len : tab.length ≤ 20 := by
 rw [q.tabOk]
 unfold tabOf
 rw [List.length_append]
 exact tab_parts q
end
section
variable {C : Ct} {n : Nat} {env : Env} {σ σ' σ1 : Loc} {H H' H0 H1 H2 H3 : List HObj}
theorem Co.mapP {target elt : PySem.Expr} {cenv : Env} {α : Type} {f : α → V} {g : α → Str × Str} {l : List α} (h : ∀ a ∈ l, ∃ σ0, (∀ K, Ast C n cenv [cenv.locals] target (f a) σ (H ++ K) σ0) ∧ (∀ K, Ev C n cenv σ0 (H ++ K) elt (H ++ K) (.tup [.str (g a).1, .str (g a).2])) ∧ (∀ x v, σ.lookup x = some v → σ0.lookup x = some v)) :
  Co C n cenv target [] elt σ H (l.map f) (pairsV (l.map g)) := by
 unfold pairsV
 rw [List.map_map]
 exact Co.map fun a m => let ⟨σ0, h1, h2, h3⟩ := h a m; ⟨σ0, h1, h2, rfl, h3⟩
theorem Co.pickP {target elt : PySem.Expr} {ifs : List PySem.Expr} {cenv : Env} {α : Type} {f : α → V} {g : α → Str × Str} {p : α → Bool} {l : List α}
  (h : ∀ a ∈ l, ∃ σ0, (∀ K, Ast C n cenv [cenv.locals] target (f a) σ (H ++ K) σ0) ∧ (∀ K, TstL C n cenv σ0 (H ++ K) ifs (p a)) ∧ (p a = true → ∀ K, Ev C n cenv σ0 (H ++ K) elt (H ++ K) (.tup [.str (g a).1, .str (g a).2])) ∧ (∀ x v, σ.lookup x = some v → σ0.lookup x = some v)) :
  Co C n cenv target ifs elt σ H (l.map f) (pairsV ((l.filter p).map g)) := by
 unfold pairsV
 rw [List.map_map]
 exact Co.pick fun a m => let ⟨σ0, h1, h2, h3, h4⟩ := h a m; ⟨σ0, h1, h2, fun q => ⟨h3 q, rfl⟩, h4⟩
end
theorem binds6 {C : Ct} {fd : FuncData} {w : Wd} {ns : List Str} {a b c d e f : V} {xs ks : List Value} (rx : VRels w [a, b, c, d, e, f] xs) (rk : VRels w [] ks) (h : ∀ x1 x2 x3 x4 x5 x6, Looks C.M C.h₀ (bindArgs fd ⟨[x1, x2, x3, x4, x5, x6], []⟩) (ns.zip [x1, x2, x3, x4, x5, x6])) :
  ∃ ys, VRels w [a, b, c, d, e, f] ys ∧ Looks C.M C.h₀ (bindArgs fd ⟨xs, (([] : List (Str × V)).map (·.1)).zip ks⟩) (ns.zip ys) := by
 obtain ⟨_, rfl⟩ := rk.inv
 obtain ⟨_, _, rfl, r1, rx⟩ := rx.inv
 obtain ⟨_, _, rfl, r2, rx⟩ := rx.inv
 obtain ⟨x3, x4, x5, x6, rfl, r3, r4, r5, r6⟩ := rx.inv4
 exact ⟨[_, _, _, _, _, _], .cons r1 (.cons r2 (.cons r3 (.cons r4 (.cons r5 (.cons r6 .nil))))), h _ _ _ _ _ _⟩
theorem ne_refl {α : Type} [DecidableEq α] {x y : α} (h : x = y) : (!decide (x = y)) = (BoolOp.Or == BoolOp.And) := by rw [decide_eq_true h]; rfl
end
set_option tactic.hygienic true in
theorem right_core (c : C1) (H : List HObj) {t i j : Nat} {read names order told : List Str} {phrase : Str} {tab : List (Str × Str)} {rk : Str → Nat} {W : Str → Str} {ps : List Str} {ti : Str → Nat} {k : Nat} {row : List Str} (hT : H[t]? = some (.sem (tabA t 303 (Str.ofString "_law_right.<locals>.<lambda>"))))
  (hj : H[j]? = some (.sem (ownA HX i))) (hi : H[i]? = some (.list (pairsV tab))) (q : RightOk c.w.params read names order told phrase tab rk W ps ti k row) :
  Fn c.ct 7 (.val (.ref 306)) [.lst (read.map V.str), .sem (instA 254 j), .lst (names.map V.str), .str phrase, .lst (order.map V.str), .lst (told.map V.str)] [] H (H ++ [.list (pairsV tab)]) (.lst (row.map V.str)) := by
 obtain ⟨bm, ob, b1, b2, b3, b4, b5, b6⟩ := c.bm
 have htab : tab.length ≤ 20 := tab_len q
 have etab := q.tabOk
 subst etab
 refine' fnOfE (ns := [Str.ofString "read", Str.ofString "table", Str.ofString "names", Str.ofString "phrase", Str.ofString "order", Str.ofString "told"]) (vs := [.lst (read.map V.str), .sem (instA 254 j), .lst (names.map V.str), .str phrase, .lst (order.map V.str), .lst (told.map V.str)]) (o := .ret (.lst (row.map V.str)) (H ++ [.list (pairsV (tabOf names read phrase rk))])) ?ho ?hb ?hst ?hcd ?hns ?hnd ?hbind ?hbody ?hfin
 walk_at "t_of"
 case hbind => intro w xs ks rx rk; exact binds6 rx rk (fun a b c d e f => Looks.of_pure rfl)
 case hbody =>
  intro env hS hCd hQl; dsimp only at hS hCd hQl
  exact (Ex.cons (Es.compS hS (SrcE.of (Ev.loc rfl) (Src.lst Lsy.lst)) rfl (fun K => Lsy.lst) (by kernel_rfl) (fun cenv hC1 => (Co.mapI (f := V.str) (g := fun x => (rk x : Int)) (l := read) (fun x hx => ⟨_, (fun K => (Ast.name (.inl ⟨kind_of hC1 rfl, rfl⟩))), (fun K => (Ev.meth (Ev.loc rfl) (EvL.cons (Ev.meth0 (Ev.loc rfl) (by exact Mth.lower (good_plain (q.good x hx)).1.2) (Typ.str) rfl rfl) EvL.nil) (by exact Mth.index (j := rk x) Lsy.lst (q.rkOk x hx).1 (q.rkOk x hx).2 (by have := q.lo; lia)) (Typ.lst Lsy.lst) rfl rfl rfl rfl (fun q_ q_ q_ q_ q_ h => Calls.evalArgs_plain h))), (sub_cons rfl)⟩))) (le_size (by simp; have := q.lr; lia)) (fun q_ q_ => rfl) (Nat.le_refl _) (il hS rfl) (by intro _ _; (rename_i e he; cases e; dsimp only at he; subst he; rfl)))
 (Ex.cons (Es.compTS hS (SrcE.of (Ev.loc rfl) (Src.lst Lsy.lst)) rfl (fun K => Lsy.lst) (by kernel_rfl) (fun cenv hC2 => (Co.mapP (f := V.str) (g := fun x => (x, if Txt.lower x = sP then phrase else sEnd)) (l := names) (fun x hx => ⟨_, (fun K => (Ast.name (.inl ⟨kind_of hC2 rfl, rfl⟩))), (fun K => (Ev.tup (EvL.cons (Ev.loc rfl) (EvL.cons (Ev.ifB (Tst.cmp (Ev.meth0 (Ev.loc rfl) (by exact Mth.lower (good_plain (q.goodN x hx)).1.2) (Typ.str) rfl rfl) Ev.str Cmp.eqS) (Ev.loc rfl) Ev.str str_if) EvL.nil)))), (sub_cons rfl)⟩))) (le_size (by simp; have := q.ln; lia)) (fun q_ q_ => rfl) (il hS rfl) (by intro _ _; (rename_i e he; cases e; dsimp only at he; subst he; rfl)))
 (Ex.cons (Es.aug rfl (by decide) (Ev.compS hS (SrcE.eql (SrcE.call (gB (g_enumerate _) (kind_of hS rfl)) (EvA.args (EvL.cons (Ev.loc rfl) EvL.nil)) (FnI.enum Lsy.lst) Kp.typ (fun q_ => rfl)) enum_ints) rfl (fun K => Lsy.lst) (by kernel_rfl) (fun cenv hC3 => (Co.pickP (f := fun w : Str × Nat => V.tup [.int (w.2 : Int), .int (rk w.1 : Int)]) (p := fun w => rk w.1 != 0) (g := fun w => (spelt w.2 (Txt.lower w.1), ((toString (w.2 : Int) : String) : Str))) (l := read.zipIdx) (fun w hw => ⟨_, (fun K => (Ast.tup (AsL.cons (Ast.name (.inl ⟨kind_of hC3 rfl, rfl⟩)) (AsL.cons (Ast.name (.inl ⟨kind_of hC3 rfl, rfl⟩)) AsL.nil)) locals_nonSeq)), (fun K => (TstL.one (Tst.eqb (Tst.val (Ev.loc rfl) Tru.int rfl) ne_cast))), (fun q_ => (fun K => (Ev.tup (EvL.cons (Ev.ifB (Tst.val (Ev.bin (Ev.loc rfl) Ev.int (Bin.fmod (by decide))) Tru.int rfl) (Ev.sub (Ev.loc rfl) (Ev.loc rfl) (Itm.lst Lsy.lst (by exact Int.ofNat_nonneg _) (by have := (q.rkOk w.1 (mem_of_zip hw)).lt; have := q.lo; lia) (by rw [List.getElem?_map, Int.toNat_natCast, (q.rkOk w.1 (mem_of_zip hw)).1]; rfl) (fun q_ q_ => rfl))) (Ev.meth0 (Ev.sub (Ev.loc rfl) (Ev.loc rfl) (Itm.lst Lsy.lst (by lia) (by have := (q.rkOk w.1 (mem_of_zip hw)).lt; have := q.lo; lia) (by rw [List.getElem?_map, Int.toNat_natCast, (q.rkOk w.1 (mem_of_zip hw)).1]; rfl) (fun q_ q_ => rfl))) (by exact Mth.upper (low_len (q.good w.1 (mem_of_zip hw)))) (Typ.str) rfl rfl) (spelt_low (q.good w.1 (mem_of_zip hw)))) (EvL.cons (Ev.call (gB (g_str _) (kind_of hC3 rfl)) (EvA.args (EvL.cons (Ev.loc rfl) EvL.nil)) (by exact Fn.strI (log_str' (by have := zip_lt hw; have := q.lr; lia))) Kp.typ) EvL.nil))))), (sub_two rfl rfl)⟩))) (le_size (by simp; have := q.lr; lia)) (fun q_ q_ => rfl) (Nat.le_refl _)) (augPairs Lsy.lst (Nat.le_trans (tab_parts q) (by decide))) (il hS rfl))
 (Ex.cons (Es.ifFb (Tst.boolOp (BoT.nextb (Tst.cmp (Ev.hdr (hm_items _) (Ev.loc rfl) (getElem?_append_some hj) EvA.nil (by exact (fn_items c _ (getElem?_append_some hj) (getElem?_append_some hi) (by rw [pv_len]; exact Nat.le_trans htab (by decide))).le (by decide)) rfl rfl) (Ev.loc rfl) (Cmp.nePairs Lsy.lst (.ref pairs_last))) (ne_refl rfl) (BoT.nextb (Tst.cmp (Ev.hdr (hm_get _) (Ev.loc rfl) (getElem?_append_some hj) (EvA.args (EvL.cons Ev.str (EvL.cons Ev.str EvL.nil))) (by exact (fn_get_no c _ (getElem?_append_some hj) (getElem?_append_some hi) (Nat.le_trans htab (by decide)) (fun z hz => (good_plain (q.goodT z hz)).1.2) (by decide) plain_q (fun z hz => decide_eq_false (q.noq z hz))).le (by decide)) rfl rfl) Ev.str Cmp.neS) (ne_refl rfl) BoT.nil))) rfl Ex.nil)
 (Ex.cons (Es.for (SrcE.of (Ev.loc rfl) (Src.lst Lsy.lst)) rfl (Fo.skip (f := V.str) (l := order) Lsy.lst (fun x hx => Turn.mk (Ast.name (.inr ⟨(.inr (kind_of hS rfl)), rfl⟩)) (Ex.one (Es.ifFb (Tst.cmp (Ev.hdr (hm_get_all _) (Ev.loc rfl) (getElem?_append_some hj) (EvA.args (EvL.cons (Ev.meth0 (Ev.loc rfl) (by exact Mth.swapcase (good_plain (q.ord x hx).1).1.2) (Typ.str) rfl rfl) EvL.nil)) (by exact (fn_get_all c _ (getElem?_append_some hj) (getElem?_append_some hi) (Nat.le_trans htab (by decide)) (fun z hz => (good_plain (q.goodT z hz)).1.2) (swap_len (q.ord x hx).1) (by rw [(q.ord x hx).2]; exact (good_plain (q.ord x hx).1).1)).le (by decide)) rfl rfl) (Ev.compS hS (SrcE.of (Ev.loc rfl) (Src.lst (.ref pairs_last))) rfl (fun K => (Lsy.ref pairs_last).app) (by kernel_rfl) (fun cenv hC4 => (Co.pickS (f := fun w : Str × Str => V.tup [.str w.1, .str w.2]) (p := fun w => decide (Txt.lower w.1 = x)) (g := fun w => w.2) (l := (tabOf names read phrase rk)) (fun w hw => ⟨_, (fun K => (Ast.tup (AsL.cons (Ast.name (.inl ⟨kind_of hC4 rfl, rfl⟩)) (AsL.cons (Ast.name (.inl ⟨kind_of hC4 rfl, rfl⟩)) AsL.nil)) locals_nonSeq)), (fun K => (TstL.one (Tst.cmp (Ev.meth0 (Ev.loc rfl) (by exact Mth.lower (good_plain (q.goodT w hw)).1.2) (Typ.str) rfl rfl) (Ev.loc rfl) Cmp.eqS))), (fun q_ => (fun K => (Ev.loc rfl))), (sub_two rfl rfl)⟩))) (le_size (by rw [pv_len]; exact Nat.le_trans htab (by decide))) (fun q_ q_ => rfl) (Nat.le_refl _)) (Cmp.neSameS (g := fun w : Str × Str => w.2) (by rw [(q.ord x hx).2]) rfl rfl)) rfl Ex.nil)) (sub_cons rfl))) (fun q_ q_ => rfl))
 (Ex.cons (Es.assign (Ev.meth Ev.str (EvL.cons (Ev.compS hS (SrcE.of (Ev.loc rfl) (Src.lst Lsy.lst)) rfl (fun K => Lsy.lst) (by kernel_rfl) (fun cenv hC5 => (Co.pickS (f := V.str) (p := fun x => rk x != 0) (g := W) (l := read) (fun x hx => ⟨_, (fun K => (Ast.name (.inl ⟨kind_of hC5 rfl, rfl⟩))), (fun K => (TstL.one (Tst.eqb (Tst.val (Ev.loc rfl) (Tru.str (good_plain (q.good x hx)).1.lt) rfl) (ne_len (q.ne0 x hx))))), (fun hp => (fun K => by have h0 : x ≠ sEnd := ne_of q hx hp; exact (by by_cases ho : kindOf x = sOp; exact (Ev.ifTb (Tst.cmp (Ev.call (gV (g_law_kind _) (kind_of hC5 rfl)) (EvA.args (EvL.cons (Ev.loc rfl) EvL.nil)) (by exact (fn_kind c _ (q.good x hx)).le (by decide)) (kp_law_kind _)) Ev.str Cmp.eqS) (decide_eq_true ho) (Ev.eqv (Ev.loc rfl) (congrArg V.str (q.op x hx h0 ho).symm))); (obtain ⟨a, ha, hw⟩ := q.get x hx h0 ho; exact (Ev.ifFb (Tst.cmp (Ev.call (gV (g_law_kind _) (kind_of hC5 rfl)) (EvA.args (EvL.cons (Ev.loc rfl) EvL.nil)) (by exact (fn_kind c _ (q.good x hx)).le (by decide)) (kp_law_kind _)) Ev.str Cmp.eqS) (decide_eq_false ho) (Ev.eqv (Ev.hdr (hm_get _) (Ev.loc rfl) (getElem?_append_some (getElem?_append_some hj)) (EvA.args (EvL.cons (Ev.meth0 (Ev.loc rfl) (by exact Mth.swapcase (good_plain (q.good x hx)).1.2) (Typ.str) rfl rfl) (EvL.cons Ev.str EvL.nil))) (by exact (fn_get c _ (getElem?_append_some (getElem?_append_some hj)) (getElem?_append_some (getElem?_append_some hi)) (Nat.le_trans htab (by decide)) (fun z hz => (good_plain (q.goodT z hz)).1.2) (swap_len (q.good x hx)) (plain_ls (q.good x hx)) ha).le (by decide)) rfl rfl) (congrArg V.str hw))))))), (sub_cons rfl)⟩))) (le_size (by simp; have := q.lr; lia)) (fun q_ q_ => rfl) (Nat.le_refl _)) EvL.nil) (by exact Mth.join Lsy.lst q.jlen) (Typ.str) rfl rfl rfl rfl (fun q_ q_ q_ q_ q_ h => Calls.evalArgs_plain h)) (il hS rfl) rfl)
 (Ex.cons (Es.assign (Ev.meth Ev.str (EvL.cons (Ev.compS hS (SrcE.eql (SrcE.of (Ev.loc rfl) (Src.lst Lsy.lst)) (List.map_map ..)) rfl (fun K => Lsy.lst) (by kernel_rfl) (fun cenv hC6 => (Co.pickS (f := fun x => V.int (rk x : Int)) (p := fun x => rk x != 0) (g := W) (l := read) (fun x hx => ⟨_, (fun K => (Ast.name (.inl ⟨kind_of hC6 rfl, rfl⟩))), (fun K => (TstL.one (Tst.eqb (Tst.val (Ev.loc rfl) Tru.int rfl) ne_cast))), (fun hp => (fun K => by have h0 : x ≠ sEnd := ne_of q hx hp; exact (by by_cases ho : rk x < 4; exact (Ev.ifTb (Tst.cmp (Ev.loc rfl) Ev.int Cmp.ltI) (decide_eq_true (by exact Int.ofNat_lt.mpr (by assumption))) (Ev.eqv (Ev.sub (Ev.loc rfl) (Ev.loc rfl) (Itm.lst Lsy.lst (by exact Int.ofNat_nonneg _) (by lia) (by rw [List.getElem?_map, Int.toNat_natCast, (q.rkOk x hx).1]; rfl) (fun q_ q_ => rfl))) (congrArg V.str (q.lt x hx h0 ho)))); exact (Ev.ifFb (Tst.cmp (Ev.loc rfl) Ev.int Cmp.ltI) (decide_eq_false (by lia)) (Ev.eqv (Ev.loc rfl) (congrArg V.str (q.ge x hx h0 ho))))))), (sub_cons rfl)⟩))) (le_size (by simp; have := q.lr; lia)) (fun q_ q_ => rfl) (Nat.le_refl _)) EvL.nil) (by exact Mth.join Lsy.lst q.jlen) (Typ.str) rfl rfl rfl rfl (fun q_ q_ q_ q_ q_ h => Calls.evalArgs_plain h)) (il hS rfl) rfl)
 (Ex.cons (Es.ifFb (Tst.boolOp (BoT.nextb (Tst.cmp (Ev.loc rfl) (Ev.loc rfl) Cmp.neS) (ne_refl rfl) (BoT.nextb (Tst.cmp (Ev.call (gV (g_law_cut _) (kind_of hS rfl)) (EvA.args (EvL.cons (Ev.loc rfl) EvL.nil)) (by exact (fn_cut c _ q.cuts q.dlen q.kle).le (by decide)) (kp_law_cut _)) (Ev.compS hS (SrcE.eql (SrcE.of (Ev.meth0 (Ev.loc rfl) (by exact Mth.split (le_size (Nat.le_trans q.dlen (by decide))) q.slen) (Typ.str) rfl rfl) (Src.lst Lsy.lst)) (congrArg (List.map V.str) q.words)) rfl (fun K => Lsy.lst) (by kernel_rfl) (fun cenv hC7 => (Co.mapI (f := V.str) (g := fun s => 7 + (ti s : Int)) (l := ps) (fun x hx => ⟨_, (fun K => (Ast.name (.inl ⟨kind_of hC7 rfl, rfl⟩))), (fun K => (Ev.bin Ev.int (Ev.meth (Ev.loc rfl) (EvL.cons (Ev.loc rfl) EvL.nil) (by exact Mth.index (j := ti x) Lsy.lst (q.tiOk x hx).1 (q.tiOk x hx).2 (by have := q.lt'; lia)) (Typ.lst Lsy.lst) rfl rfl rfl rfl (fun q_ q_ q_ q_ q_ h => Calls.evalArgs_plain h)) Bin.addInt)), (sub_cons rfl)⟩))) (le_size (by have := q.cuts.len; have := q.kle; simp at *; lia)) (fun q_ q_ => rfl) (Nat.le_refl _)) (Cmp.neInts Lsy.lst Lsy.lst)) (ne_refl rfl) BoT.nil))) rfl Ex.nil)
 (Ex.stop (Es.ret (Ev.callLam (m := 0) (x := Str.ofString "order") (u := .lst (order.map V.str)) (hu := cap_ok) (gB (g_sorted _) (kind_of hS rfl)) rfl (EvL.cons (Ev.compS hS (SrcE.of (Ev.loc rfl) (Src.lst (.ref pairs_last))) rfl (fun K => (Lsy.ref pairs_last).app) (by kernel_rfl) (fun cenv hC8 => (Co.mapS (f := fun w : Str × Str => V.tup [.str w.1, .str w.2]) (g := fun w => w.1) (l := (tabOf names read phrase rk)) (fun w hw => ⟨_, (fun K => (Ast.tup (AsL.cons (Ast.name (.inl ⟨kind_of hC8 rfl, rfl⟩)) (AsL.cons (Ast.name (.inl ⟨kind_of hC8 rfl, rfl⟩)) AsL.nil)) locals_nonSeq)), (fun K => (Ev.loc rfl)), (sub_two rfl rfl)⟩))) (le_size (by rw [pv_len]; exact Nat.le_trans htab (by decide))) (fun q_ q_ => rfl) (Nat.le_refl _)) EvL.nil) (getElem?_append_some hT) hCd (by rw [hQl]; decide) (hd_right c) b1 b2 b3 b4 b5 b6 rfl rfl (kind_of hS rfl) (fun c h => by simp [closureFor, cellOf, h]) (Fn.sortedStrs (n := 4) (L := (tabOf names read phrase rk).map fun w => (rk w.1 : Int)) (names := (tabOf names read phrase rk).map (·.1)) (row := row) Lsy.lst lam_ref (by rw [List.length_map]; exact Nat.lt_of_le_of_lt htab (by decide)) (by simp) (fun K i x z hx hz => by
    obtain ⟨w, hw, rfl, rfl⟩ := row_item hx hz
    exact (Fn.lam (n := 1) (ns := [Str.ofString "name"]) rfl (by decide) (fun clos pm cd ctv xs hxs => by obtain ⟨x, rfl⟩ := List.length_eq_one_iff.mp hxs; rfl) (fun lenv hL => (Ev.meth (Ev.loc rfl) (EvL.cons (Ev.meth0 (Ev.loc rfl) (by exact Mth.lower (good_plain (q.goodT w hw)).1.2) (Typ.str) rfl rfl) EvL.nil) (by exact Mth.index (j := rk w.1) Lsy.lst (q.rkT w hw).1 (q.rkT w hw).2 (by have := q.lo; lia)) (Typ.lst Lsy.lst) rfl rfl rfl rfl (fun q_ q_ q_ q_ q_ h => Calls.evalArgs_plain h)))).le (by decide)) (fun p P A => by rw [List.length_map] at P A; exact q.rowOk p P A)) (dat_strs _) (pin_pl (all_strs _)) Kp.blt (fun q_ => rfl) (fun q_ => rfl))) (by intro _ _ h; cases h))))))))))
 case hfin => first | exact Fin.ret | exact Fin.next
theorem fn_right (c : C1) (H : List HObj) {t i j : Nat} {read names order told : List Str} {phrase : Str} {tab : List (Str × Str)} {rk : Str → Nat} {W : Str → Str} {ps : List Str} {ti : Str → Nat} {k : Nat} {row : List Str} (hT : H[t]? = some (.sem (tabA t 303 (Str.ofString "_law_right.<locals>.<lambda>"))))
  (hj : H[j]? = some (.sem (ownA HX i))) (hi : H[i]? = some (.list (pairsV tab))) (q : RightOk c.w.params read names order told phrase tab rk W ps ti k row) :
  Fn c.ct 7 (.val (.ref 306)) [.lst (read.map V.str), .sem (instA 254 j), .lst (names.map V.str), .str phrase, .lst (order.map V.str), .lst (told.map V.str)] [] H H (.lst (row.map V.str)) := Fn.shed (right_core c H hT hj hi q) (Nat.le_refl _) (.dat (dat_strs _)) id
theorem uniq_sorted {α : Type} {R : α → α → Prop} {a b : List α} (hR : ∀ x ∈ a, ∀ y ∈ a, R x y → ¬ R y x) (p : a.Perm b) (ha : a.Pairwise R) (hb : b.Pairwise R) : a = b := by
 induction a generalizing b with
 | nil => exact List.Perm.nil_eq p
 | cons x a ih =>
  cases b with
  | nil => exact (List.Perm.eq_nil p)
  | cons y b =>
   have ha' := List.pairwise_cons.mp ha
   have hb' := List.pairwise_cons.mp hb
   have e : x = y := by
    rcases List.mem_cons.mp (p.mem_iff.mp (.head _)) with e | h1
    ·exact e
    ·rcases List.mem_cons.mp (p.mem_iff.mpr (.head _)) with e | h2
     ·exact e.symm
     ·exact absurd (hb'.1 x h1) (hR x (.head _) y (.tail _ h2) (ha'.1 y h2))
   subst e
   rw [ih (fun u hu v hv => hR u (.tail _ hu) v (.tail _ hv)) (List.Perm.cons_inv p) ha'.2 hb'.2]
theorem asc_by {k : Nat → Int} {n : Nat} {p : Array Nat} (P : Pre n n p) (A : Asc k n p) : p.toList.Pairwise (ByS k) := by
 rw [List.pairwise_iff_getElem]
 intro i j hi hj hij
 rw [Array.length_toList, P.size] at hi hj
 have e : ∀ t (h : t < n), pt p t = p.toList[t]'(by rw [Array.length_toList, P.size]; exact h) := fun t h => by
  have : t < p.size := by rw [P.size]; exact h
  simp [pt, Array.getD, this]
 have := A i j hij hj
 rw [e i hi, e j hj] at this
 exact this
theorem pre_perm {n : Nat} {p : Array Nat} (P : Pre n n p) : p.toList.Perm (List.range n) := by
 have := Array.perm_iff_toList_perm.mp P.perm
 simpa using this
noncomputable def insS (s : Nat → Int) (l : List Nat) (x : Nat) : List Nat := l.take (l.countP fun y => decide (s y ≤ s x)) ++ x :: l.drop (l.countP fun y => decide (s y ≤ s x))
noncomputable def lineN (s : Nat → Int) : Nat → List Nat
 | 0 => []
 | i + 1 => insS s (lineN s i) i
theorem s_down {s : Nat → Int} {l : List Nat} (h : l.Pairwise (ByS s)) {x : Int} {i y : Nat} (e : l[i]? = some y) : s y ≤ x ↔ i < l.countP fun y => decide (s y ≤ x) := by
 have := down_count (p := fun y => decide (s y ≤ x)) (l := l) (h.imp fun {a b} q hb => by
  rw [decide_eq_true_iff] at hb ⊢
  unfold ByS at q; lia) e
 rw [decide_eq_true_iff] at this
 exact this
theorem insS_ok {s : Nat → Int} {l : List Nat} {x : Nat} (h : l.Pairwise (ByS s)) (hm : ∀ y ∈ l, y < x) : (insS s l x).Pairwise (ByS s) ∧ (insS s l x).Perm (l ++ [x]) := by
 constructor
 ·unfold insS
  rw [List.pairwise_append]
  refine ⟨h.sublist (List.take_sublist _ _), List.pairwise_cons.mpr ⟨fun y hy => ?_, h.sublist (List.drop_sublist _ _)⟩, fun y hy z hz => ?_⟩
  ·obtain ⟨i, hi⟩ := List.getElem?_of_mem hy
   rw [List.getElem?_drop] at hi
   have := (not_congr (s_down h (x := s x) hi)).mpr (by lia)
   unfold ByS; omega
  ·obtain ⟨i, hi⟩ := List.getElem?_of_mem hy
   have hl := (List.getElem?_eq_some_iff.mp hi).1
   rw [List.length_take] at hl
   rw [List.getElem?_take_of_lt (by omega)] at hi
   have h1 := (s_down h (x := s x) hi).mpr (by lia)
   have h2 := hm y (List.mem_of_getElem? hi)
   rcases List.mem_cons.mp hz with rfl | hz
   ·unfold ByS; lia
   ·have := h
    obtain ⟨j, hj⟩ := List.getElem?_of_mem hz
    rw [List.getElem?_drop] at hj
    have h3 := (not_congr (s_down h (x := s x) hj)).mpr (by lia)
    unfold ByS; lia
 ·unfold insS
  refine List.perm_middle.trans ?_
  rw [List.take_append_drop]
  exact (List.perm_append_comm (l₁ := [x]) (l₂ := l))
theorem lineN_ok (s : Nat → Int) (i : Nat) : (lineN s i).Pairwise (ByS s) ∧ (lineN s i).Perm (List.range i) := by
 induction i with
 | zero => exact ⟨List.Pairwise.nil, List.Perm.refl _⟩
 | succ i ih =>
  have hm : ∀ y ∈ lineN s i, y < i := fun y hy => List.mem_range.mp (ih.2.mem_iff.mp hy)
  have g := insS_ok (x := i) ih.1 hm
  refine ⟨g.1, g.2.trans ?_⟩
  rw [List.range_succ]
  exact ih.2.append_right [i]
theorem lineN_len (s : Nat → Int) (i : Nat) : (lineN s i).length = i := by rw [(lineN_ok s i).2.length_eq]; simp
theorem sort_line {s k : Nat → Int} {n : Nat} {p : Array Nat} (same : ∀ i j, i < j → j < n → (s j < s i ↔ k j < k i)) (P : Pre n n p) (A : Asc k n p) : p.toList = lineN s n := by
 obtain ⟨h1, h2⟩ := lineN_ok s n
 refine uniq_sorted (R := fun a b => (a < n → b < n → ByS k a b)) (fun x hx y hy h h' => ?_) ((pre_perm P).trans h2.symm) ((asc_by P A).imp fun h q_ q_ => h) (h1.imp fun {a b} h ha hb => ?_)
 ·have e1 : x < n := by simpa using (pre_perm P).mem_iff.mp hx
  have e2 : y < n := by simpa using (pre_perm P).mem_iff.mp hy
  exact (h e1 e2).asym (h' e2 e1)
 ·unfold ByS at *
  rcases Nat.lt_trichotomy a b with q | q | q
  ·have := same a b q hb; lia
  ·subst q; lia
  ·have := same b a q ha; lia
theorem kp_lam {C : Ct} {h₀ : Heap} {q : Str} {params : Arguments} {body : PySem.Expr} {scope : Scope} {caps : List (Str × V)} {m : Nat} {hm : caps.all (fun p => p.2.lowOk m) = true} : Kp C (.sem (lamA h₀ q params body scope caps m hm)) := fun w H g B r => by
 have h := r.inv
 obtain ⟨f, c, ctv, pm, clos, rfl, nf, e, _⟩ := h
 exact keeps_F _ ⟨_, _, _, _, e⟩
theorem lam_some {h₀ : Heap} {q : Str} {params : Arguments} {body : PySem.Expr} {scope : Scope} {caps : List (Str × V)} {m : Nat} {hm : caps.all (fun p => p.2.lowOk m) = true} : ∀ (w : Wd) x, VRel w (.sem (lamA h₀ q params body scope caps m hm)) x → (x == Value.none) = false := fun w x r => by
 obtain ⟨q, rfl⟩ := lam_ref w x r
 rfl
theorem cap_ref {x : Str} {j m : Nat} (h : j < m) : [(x, V.ref j)].all (fun p => p.2.lowOk m) = true := by
 exact Bool.and_eq_true_iff.mpr ⟨decide_eq_true h, rfl⟩
noncomputable def lineV (s : Nat → Int) (i : Nat) : List V := (lineN s i).map fun (k : Nat) => V.int (k : Int)
theorem lineV_len (s : Nat → Int) (i : Nat) : (lineV s i).length = i := by unfold lineV; rw [List.length_map, lineN_len]
theorem lineV_at {s : Nat → Int} {i j : Nat} {v : V} (h : (lineV s i)[j]? = some v) : ∃ y, (lineN s i)[j]? = some y ∧ y < i ∧ v = .int (y : Int) := by
 unfold lineV at h
 rw [List.getElem?_map] at h
 cases q : (lineN s i)[j]? with
 | none => rw [q] at h; cases h
 | some y =>
  rw [q] at h; cases h
  exact ⟨y, rfl, by simpa using (lineN_ok s i).2.mem_iff.mp (List.mem_of_getElem? q), rfl⟩
noncomputable abbrev cutS (s : Nat → Int) (i : Nat) : Nat := (lineN s i).countP fun y => decide (s y ≤ s i)
theorem lineV_succ (s : Nat → Int) (i : Nat) : (lineV s i).take (cutS s i) ++ V.int (i : Int) :: (lineV s i).drop (cutS s i) = lineV s (i + 1) := by
 unfold lineV
 rw [← List.map_take, ← List.map_drop]
 show _ = (insS s (lineN s i) i).map _
 unfold insS
 rw [List.map_append, List.map_cons]
theorem cut_le (s : Nat → Int) (i : Nat) : cutS s i ≤ i := Nat.le_trans List.countP_le_length (Nat.le_of_eq (lineN_len s i))
theorem cut_lt {s : Nat → Int} {i j : Nat} (hj : j < i) : decide (s i < s ((lineN s i).getD j 0)) = decide (cutS s i ≤ j) := by
 have hl : j < (lineN s i).length := by rw [lineN_len]; exact hj
 have := s_down (lineN_ok s i).1 (x := s i) (List.getElem?_eq_getElem hl)
 rw [show (lineN s i).getD j 0 = (lineN s i)[j] by simp [hl]]
 rw [Bool.eq_iff_iff, decide_eq_true_iff, decide_eq_true_iff]
 have e : cutS s i = (lineN s i).countP fun y => decide (s y ≤ s i) := rfl
 lia
theorem three_at {α : Type} {f : Nat → α} {i : Nat} (h : i < 3) : [f 0, f 1, f 2][i]? = some (f i) := by
 rcases below3 h with rfl | rfl | rfl <;> rfl
theorem rng3 {i : Nat} {v : V} (h : (rngL 0 3)[i]? = some v) : i < 3 ∧ v = .int (i : Int) := by
 obtain ⟨h1, h2⟩ := rng_at h
 exact ⟨by assumption, by rw [h2, Int.zero_add]⟩
theorem line_insort (c : C1) {H : List HObj} {s : Nat → Int} {i : Nat} {key : V} (hi : i < 3) (fits : ∀ i, i < 3 → Fits (s i)) (hk : Kp c.ct key) (hkn : ∀ (w : Wd) x, VRel w key x → (x == Value.none) = false)
  (hx : ∀ y : Nat, y < 3 → Fn c.ct 4 key [.int (y : Int)] [] (H ++ [HObj.list (lineV s i)]) (H ++ [HObj.list (lineV s i)]) (.flt (fl (s y)))) :
  Fn c.ct 6 (.val (.ref 47)) [.ref H.length, .int (i : Int)] [("key", key)] (H ++ [HObj.list (lineV s i)]) (H ++ [HObj.list (lineV s (i + 1))]) .none := by
 have h := fn_insort_all c (H ++ [HObj.list (lineV s i)]) (n := 4) (lo := 0) (hi := i) (r := cutS s i) (j := H.length) (X := .int (i : Int)) (KX := .flt (fl (s i))) (l := lineV s i) (lt := fun j => decide (s i < s ((lineN s i).getD j 0)))
  (by simp) (by rw [lineV_len]; lia) rfl hk hkn (lineV_len s i).symm rfl (Nat.zero_le _) (cut_le s i) (hx i hi) (fun j v hv q_ q_ => by
   obtain ⟨y, hy, hyi, rfl⟩ := lineV_at hv
   refine ⟨_, hx y (by lia), ?_⟩
   rw [show (lineN s i).getD j 0 = y by rw [List.getD_eq_getElem?_getD, hy]; rfl]
   exact Cmp.ltF (fits i hi) (fits y (by lia)))
  (fun j q_ h => by have := cut_le s i; show decide _ = false; rw [cut_lt (by exact Nat.lt_of_lt_of_le (by assumption) (by assumption))]; exact decide_eq_false (by exact Nat.not_le.mpr (by assumption))) (fun j h1 h2 => by show decide _ = true; rw [cut_lt h2]; exact decide_eq_true h1)
 rw [lineV_succ, List.set_append_right _ _ (Nat.le_refl _), Nat.sub_self] at h
 exact h
theorem Fn.sorted3 {C : Ct} {n : Nat} {H : List HObj} {f : V} {s rk : Nat → Int} {ls : Nat → List Int} (hg : ∀ (w : Wd) g, VRel w f g → ∃ q, g = .ref q) (hkey : ∀ K (i : Nat), i < 3 → Fn C n f [.int (i : Int)] [] (H ++ K) (H ++ K) (.lst ((ls i).map .int)))
  (hrk : ∀ i j, i < 3 → j < 3 → lexLt (ls i) (ls j) = decide (rk i < rk j)) (same : ∀ i j, i < j → j < 3 → (s j < s i ↔ rk j < rk i)) : Fn C (n + 2) (.val (.builtin "sorted")) [.rng 0 3] [("key", f)] H H (.lst (lineV s 3)) := by
 have e3 : ((List.range 3).map fun (i : Nat) => (i : Int)).map V.int = [.int 0, .int 1, .int 2] := rfl
 have gk : ∀ i, i < 3 → [V.lst ((ls 0).map V.int), V.lst ((ls 1).map V.int), V.lst ((ls 2).map V.int)].getD i .none = .lst ((ls i).map V.int) := fun i hi => by
  rw [List.getD_eq_getElem?_getD, three_at (f := fun i => V.lst ((ls i).map V.int)) hi]; rfl
 refine Fn.sorted (l := ((List.range 3).map fun (i : Nat) => (i : Int)).map V.int) (ks := [V.lst ((ls 0).map V.int), V.lst ((ls 1).map V.int), V.lst ((ls 2).map V.int)]) (κ := oneType') (rk := rk) (Col.rng (k := 3) (by decide)) hg (by decide) rfl
  (by simp [datL, V.dat, dat_ints]) rfl (fun K i v kv hv hkv => ?_) (fun q_ => KeyKind.lists (ls := [ls 0, ls 1, ls 2]) (Nat.le_of_ble_eq_true rfl)) (fun K i j hi hj => ?_) (fun p P A => ?_) (by unfold lineV; exact datL_iff.mpr fun v hv => by obtain ⟨a, _, rfl⟩ := List.mem_map.mp hv; rfl)
 ·rw [e3] at hv
  have hi : i < 3 := (List.getElem?_eq_some_iff.mp hv).1
  have h1 : v = .int (i : Int) := by
   rcases below3 hi with rfl | rfl | rfl <;> (cases hv; rfl)
  have h2 : kv = .lst ((ls i).map V.int) := by
   rw [three_at (f := fun i => V.lst ((ls i).map V.int)) hi] at hkv
   cases hkv; rfl
  rw [h1, h2]; exact hkey K i hi
 ·have hi' : i < 3 := hi
  have hj' : j < 3 := hj
  rw [gk i hi', gk j hj', ← hrk i j hi' hj']
  exact KeyLt.lists
 ·have := sort_line same P A
  unfold lineV
  rw [← this]
  refine List.map_congr_left fun i hi => ?_
  have hi' : i < 3 := pre_mem P i hi
  rcases below3 hi' with rfl | rfl | rfl <;> rfl
theorem lineV_dat {s : Nat → Int} : V.dat (.lst (lineV s 3)) = true := by
 show datL _ = true
 unfold lineV; exact datL_iff.mpr fun v hv => by obtain ⟨a, _, rfl⟩ := List.mem_map.mp hv; rfl
theorem ranked_core (c : C1) (H : List HObj) {t jh jg : Nat} {s rk : Nat → Int} {ls : Nat → List Int} (hT : H[t]? = some (.sem (tabA t 315 "_law_ranked.<locals>.<lambda>")))
  (hh : H[jh]? = some (.list [.flt (fl (s 0)), .flt (fl (s 1)), .flt (fl (s 2))])) (hg : H[jg]? = some (.list [.lst ((ls 0).map V.int), .lst ((ls 1).map V.int), .lst ((ls 2).map V.int)])) (fits : ∀ i, i < 3 → Fits (s i))
  (hrk : ∀ i j, i < 3 → j < 3 → lexLt (ls i) (ls j) = decide (rk i < rk j)) (same : ∀ i j, i < j → j < 3 → (s j < s i ↔ rk j < rk i)) :
  Fn c.ct 7 (.val (.ref 320)) [.ref jh, .ref jg] [] H (H ++ [.list (lineV s 3)]) (.bool true) := by
 obtain ⟨bm, ob, b1, b2, b3, b4, b5, b6⟩ := c.bm
 have ljh : jh < H.length := (List.getElem?_eq_some_iff.mp hh).1
 have ljg : jg < H.length := (List.getElem?_eq_some_iff.mp hg).1
 have line3 : (H ++ [HObj.list (lineV s 3)])[H.length]? = some (.list (((lineN s 3).map fun (k : Nat) => (k : Int)).map V.int)) := by rw [List.map_map]; simp; rfl
 have lst3 : Lsy (H ++ [HObj.list (lineV s 3)]) (.lst (lineV s 3)) (((lineN s 3).map fun (k : Nat) => (k : Int)).map V.int) := by rw [List.map_map]; exact Lsy.lst
 refine' fnOfE (ns := ["hues", "heard"]) (vs := [.ref jh, .ref jg]) (o := .ret (.bool true) (H ++ [.list (lineV s 3)])) ?ho ?hb ?hst ?hcd ?hns ?hnd ?hbind ?hbody ?hfin
 walk_at "t_of"
 case hbind => exact bind2 fun q_ q_ => Looks.of_pure rfl
 case hbody =>
  intro env hS hCd hQl; dsimp only at hS hCd hQl
  exact (Ex.cons (Es.assign (Ev.lstAt (i := H.length) EvL.nil (Nat.le_of_ble_eq_true rfl) rfl rfl) (il hS rfl) rfl)
 (Ex.cons (Es.for (SrcE.of (Ev.call (gB (g_range _) (kind_of hS rfl)) (EvA.args (EvL.cons Ev.int EvL.nil)) (by exact Fn.range1) Kp.typ) (Src.rng (by decide) (by decide) (by decide) (by decide))) rfl (Fo.runsN 3 (by rw [rngL_len]; rfl) (fun q_ => [("line", .ref H.length), ("hues", .ref jh), ("heard", .ref jg)]) (fun i => H ++ [HObj.list (lineV s i)]) (subs_cons rfl (subs_cons rfl (subs_cons rfl subs_nil))) rfl (fun q_ q_ => trivial) (fun i v hv => by
   obtain ⟨hi, rfl⟩ := rng3 hv
   exact Turn.mk (Ast.name (.inr ⟨(il hS rfl), rfl⟩)) (Ex.one (Es.expr (Ev.callLam (m := H.length) (x := "hues") (u := .ref jh) (hu := cap_ref ljh) (gV (g_insort_right _) (kind_of hS rfl)) rfl (EvL.cons (Ev.loc rfl) (EvL.cons (Ev.loc rfl) EvL.nil)) (getElem?_append_some hT) hCd (by rw [hQl]; decide) (hd_ranked c) b1 b2 b3 b4 b5 b6 rfl rfl (kind_of hS rfl) (fun c h => by simp [closureFor, cellOf, h]) (line_insort c hi fits kp_lam lam_some (fun y hy => (Fn.lam (n := 1) (ns := ["spot"]) rfl (by decide) (fun clos pm cd ctv xs hxs => by obtain ⟨x, rfl⟩ := List.length_eq_one_iff.mp hxs; rfl) (fun lenv hL => (Ev.sub (Ev.loc rfl) (Ev.loc rfl) (Itm.lst (.ref (getElem?_append_some hh)) (by exact Int.ofNat_nonneg _) (by lia) (by rw [Int.toNat_natCast]; exact three_at (f := fun i => V.flt (fl (s i))) hy) (fun q_ q_ => rfl))))).le (by decide))) rfl (pin_pl rfl) (kp_insort_right _) (fun q_ => rfl) (fun q_ => rfl)) (in_of hS (by intro e he; cases e; dsimp only at he; subst he; rfl)) rfl)) (subs_cons rfl (subs_cons rfl (subs_cons rfl subs_nil))))) (fun q_ q_ => rfl))
 (Ex.stop (Es.ret (Ev.cmp (Ev.loc rfl) (Ev.callLam (m := H.length) (x := "heard") (u := .ref jg) (hu := cap_ref ljg) (gB (g_sorted _) (kind_of hS rfl)) rfl (EvL.cons (Ev.call (gB (g_range _) (kind_of hS rfl)) (EvA.args (EvL.cons Ev.int EvL.nil)) (by exact Fn.range1) Kp.typ) EvL.nil) (getElem?_append_some hT) hCd (by rw [hQl]; decide) (hd_ranked c) b1 b2 b3 b4 b5 b6 rfl rfl (kind_of hS rfl) (fun c h => by simp [closureFor, cellOf, h]) (Fn.sorted3 (n := 4) (s := s) (rk := rk) (ls := ls) lam_ref (fun K y hy => (Fn.lam (n := 1) (ns := ["spot"]) rfl (by decide) (fun clos pm cd ctv xs hxs => by obtain ⟨x, rfl⟩ := List.length_eq_one_iff.mp hxs; rfl) (fun lenv hL => (Ev.sub (Ev.loc rfl) (Ev.loc rfl) (Itm.lst (.ref (getElem?_append_some (getElem?_append_some hg))) (by lia) (by lia) (by rw [Int.toNat_natCast]; exact three_at (f := fun i => V.lst ((ls i).map V.int)) hy) (fun q_ q_ => rfl))))).le (by decide)) hrk same) lineV_dat pin_rng Kp.blt (fun q_ => rfl) (fun q_ => rfl)) (by have := Cmp.eqInts (C := c.ct) (n := 6) (H := H ++ [HObj.list (lineV s 3)]) (u := .ref H.length) (v := .lst (lineV s 3)) (xs := (lineN s 3).map fun (k : Nat) => (k : Int)) (ys := (lineN s 3).map fun (k : Nat) => (k : Int)) (.ref line3) lst3; rw [decide_eq_true rfl] at this; exact this) rfl)) (by intro _ _ h; cases h))))
 case hfin => first | exact Fin.ret | exact Fin.next
theorem fn_ranked (c : C1) (H : List HObj) {t jh jg : Nat} {s rk : Nat → Int} {ls : Nat → List Int} (hT : H[t]? = some (.sem (tabA t 315 "_law_ranked.<locals>.<lambda>")))
  (hh : H[jh]? = some (.list [.flt (fl (s 0)), .flt (fl (s 1)), .flt (fl (s 2))])) (hg : H[jg]? = some (.list [.lst ((ls 0).map V.int), .lst ((ls 1).map V.int), .lst ((ls 2).map V.int)])) (fits : ∀ i, i < 3 → Fits (s i))
  (hrk : ∀ i j, i < 3 → j < 3 → lexLt (ls i) (ls j) = decide (rk i < rk j)) (same : ∀ i j, i < j → j < 3 → (s j < s i ↔ rk j < rk i)) :
  Fn c.ct 7 (.val (.ref 320)) [.ref jh, .ref jg] [] H H (.bool true) := Fn.shed (ranked_core c H hT hh hg fits hrk same) (Nat.le_refl _) (.dat rfl) id
theorem fnR {c : C1} {n : Nat} {H : List HObj} {X : String} {msg : Str} {f : Addr} {fd : FuncData} {oc : Value} {od : Option Addr} {osl : Array (Option Value)} {body : List PySem.Stmt} {args : List V} {kw : List (Str × V)} {ns : List Str} {vs : List V}
  (ho : (hd01.heap_39 c.w.params).lookup f = some ⟨oc, od, .func fd, osl⟩) (hb : fd.body = .stmts body) (hst : fdOk fd = true) (hcd : codeIn (hd01.heap_39 c.w.params) fd.code fd.qualname = true) (hns : namesOk fd ns = true) (hnd : ns.Nodup)
  (hbind : Binds c.ct fd args kw ns vs) (hbody : ∀ env : Env, env.scope = fd.scope → ExR c.ct n env (ns.zip vs) H body X msg) : FnX c.ct (n + 1) (.val (.ref f)) args kw H X msg := FnX.ofR ho hb hst hcd hns hnd (Binds.wide hbind) hbody
theorem fnX {c : C1} {n : Nat} {H : List HObj} {X : String} {msg : Str} {f : Addr} {fd : FuncData} {oc : Value} {od : Option Addr} {osl : Array (Option Value)} {body : List PySem.Stmt} {args : List V} {kw : List (Str × V)} {ns : List Str} {vs : List V}
  (ho : (hd01.heap_39 c.w.params).lookup f = some ⟨oc, od, .func fd, osl⟩) (hb : fd.body = .stmts body) (hst : fdOk fd = true) (hcd : codeIn (hd01.heap_39 c.w.params) fd.code fd.qualname = true) (hns : namesOk fd ns = true) (hnd : ns.Nodup)
  (hbind : Binds c.ct fd args kw ns vs) (hbody : ∀ env : Env, env.scope = fd.scope → ExX c.ct n env (ns.zip vs) H body X msg) : FnX c.ct (n + 1) (.val (.ref f)) args kw H X msg := FnX.ofX ho hb hst hcd hns hnd (Binds.wide hbind) hbody
theorem fnO {c : C1} {n : Nat} {H H' : List HObj} {v : V} {o : Out} {f : Addr} {fd : FuncData} {oc : Value} {od : Option Addr} {osl : Array (Option Value)} {body : List PySem.Stmt} {args : List V} {ns : List Str} {vs : List V}
  (ho : (hd01.heap_39 c.w.params).lookup f = some ⟨oc, od, .func fd, osl⟩) (hb : fd.body = .stmts body) (hst : fdOk fd = true) (hcd : codeIn (hd01.heap_39 c.w.params) fd.code fd.qualname = true) (hns : namesOk fd ns = true) (hnd : ns.Nodup)
  (hbind : Binds c.ct fd args [] ns vs) (hbody : ∀ (A : Around) (outer : List Env) (env : Env), env.scope = fd.scope → A.frames = some (env :: outer) → OutT H outer → env.frame = some env.locals → ExA c.ct n A env (ns.zip vs) H body o) (hfin : Fin o v H') :
  FnO c.ct (n + 1) (.val (.ref f)) args H H' v := FnO.ofDef ho hb hst hcd hns hnd (Binds.wide hbind) hbody hfin
theorem no_name {σ : Loc} {nm : Str} (h : ((σ.map (·.1)).all fun y => !(y == nm)) = true) : ∀ y v, σ.lookup y = some v → y ≠ nm := fun y v e q => by
 have := List.all_eq_true.mp h y (List.mem_map_of_mem (f := (·.1)) (mem_of_lookup e))
 rw [q] at this; simp at this
theorem OutT.app {H : List HObj} {outer : List Env} (h : OutT H outer) (K : List HObj) : OutT (H ++ K) outer := ⟨fun env m => let ⟨a, b, k, hk⟩ := h.all env m; ⟨a, b, k, getElem?_append_some hk⟩⟩
theorem set_rep (H : List HObj) (i : Nat) (x : V) : (H ++ [HObj.list (List.replicate i x)]).set H.length (HObj.list (List.replicate i x ++ [x])) = H ++ [HObj.list (List.replicate (i + 1) x)] := by
 rw [List.set_append_right _ _ (Nat.le_refl _), Nat.sub_self, List.replicate_succ']; rfl
theorem EsA.eqH {C : Ct} {n : Nat} {A : Around} {env : Env} {σ σ1 : Loc} {H H1 H2 : List HObj} {st : PySem.Stmt} (h : EsA C n A env σ H st (.next σ1 H1)) (e : H1 = H2) : EsA C n A env σ H st (.next σ1 H2) := e ▸ h
noncomputable abbrev loMsg : Str := "lo must be non-negative"
theorem FnX.le {C : Ct} {m n : Nat} {f : V} {args : List V} {kw : List (Str × V)} {H : List HObj} {X : String} {msg : Str} (h : FnX C m f args kw H X msg) (q : m ≤ n) : FnX C n f args kw H X msg :=
 fun A outer w R' g xs ks R => h A outer w R' g xs ks (R.le q)
theorem bisect_left_lo (c : C1) (H : List HObj) {j : Nat} {X key : V} : FnX c.ct 3 (.val (.ref 65)) [.ref j, X, .int (-1)] [("key", key)] H "ValueError" loMsg := by
 refine' fnR (ns := ["a", "x", "lo", "hi", "key"]) (vs := [.ref j, X, .int (-1), .none, key]) ?ho ?hb ?hst ?hcd ?hns ?hnd ?hbind ?hbody
 walk_at "t_of"
 case hbind => exact bind31 fun q_ q_ q_ q_ => Looks.of_peek c.X (by kernel_rfl)
 case hbody =>
  intro env hS; dsimp only at hS
  exact ExR.ifT (Tst.eqb (Tst.cmp (Ev.loc rfl) Ev.int (by exact Cmp.ltI)) rfl) (ExR.raise PySem.F.excCall_ValueError PySem.F.excRaise_ValueError (gB (g_ValueError _) (kind_of hS rfl)) (EvL.cons Ev.str EvL.nil) (fun q_ => rfl) (fun q_ => rfl))
theorem bisect_right_lo (c : C1) (H : List HObj) {j : Nat} {X key : V} : FnX c.ct 3 (.val (.ref 56)) [.ref j, X, .int (-1)] [("key", key)] H "ValueError" loMsg := by
 refine' fnR (ns := ["a", "x", "lo", "hi", "key"]) (vs := [.ref j, X, .int (-1), .none, key]) ?ho ?hb ?hst ?hcd ?hns ?hnd ?hbind ?hbody
 walk_at "t_of"
 case hbind => exact bind31 fun q_ q_ q_ q_ => Looks.of_peek c.X (by kernel_rfl)
 case hbody =>
  intro env hS; dsimp only at hS
  exact ExR.ifT (Tst.eqb (Tst.cmp (Ev.loc rfl) Ev.int (by exact Cmp.ltI)) rfl) (ExR.raise PySem.F.excCall_ValueError PySem.F.excRaise_ValueError (gB (g_ValueError _) (kind_of hS rfl)) (EvL.cons Ev.str EvL.nil) (fun q_ => rfl) (fun q_ => rfl))
theorem bisect_right_lo_none (c : C1) (H : List HObj) {j : Nat} {X key : V} : FnX c.ct 3 (.val (.ref 56)) [.ref j, X, .int (-1), .none] [("key", key)] H "ValueError" loMsg := by
 refine' fnR (ns := ["a", "x", "lo", "hi", "key"]) (vs := [.ref j, X, .int (-1), .none, key]) ?ho ?hb ?hst ?hcd ?hns ?hnd ?hbind ?hbody
 walk_at "t_of"
 case hbind => exact bind41 fun q_ q_ q_ q_ q_ => Looks.of_peek c.X (by kernel_rfl)
 case hbody =>
  intro env hS; dsimp only at hS
  exact ExR.ifT (Tst.eqb (Tst.cmp (Ev.loc rfl) Ev.int (by exact Cmp.ltI)) rfl) (ExR.raise PySem.F.excCall_ValueError PySem.F.excRaise_ValueError (gB (g_ValueError _) (kind_of hS rfl)) (EvL.cons Ev.str EvL.nil) (fun q_ => rfl) (fun q_ => rfl))
theorem insort_lo (c : C1) (H : List HObj) {j : Nat} {X KX key : V} (hk : Kp c.ct key) (hkn : ∀ (w : Wd) x, VRel w key x → (x == Value.none) = false) (hx : Fn c.ct 3 key [X] [] H H KX) : FnX c.ct 4 (.val (.ref 47)) [.ref j, X, .int (-1)] [("key", key)] H "ValueError" loMsg := by
 refine' fnX (ns := ["a", "x", "lo", "hi", "key"]) (vs := [.ref j, X, .int (-1), .none, key]) ?ho ?hb ?hst ?hcd ?hns ?hnd ?hbind ?hbody
 walk_at "t_of"
 case hbind => exact bind31 fun q_ q_ q_ q_ => Looks.of_peek c.X (by kernel_rfl)
 case hbody =>
  intro env hS; dsimp only at hS
  exact ExX.ifF (Tst.eqb (Tst.cmp (Ev.loc rfl) Ev.none (Cmp.isNone (b := false) hkn)) rfl) (ExX.assign (EvX.call (gV (g_bisect_right _) (kind_of hS rfl)) (EvA.kw (kv := [("key", _)]) (EvL.cons (Ev.loc rfl) (EvL.cons (Ev.call (Ev.loc rfl) (EvA.args (EvL.cons (Ev.loc rfl) EvL.nil)) (by exact hx) hk) (EvL.cons (Ev.loc rfl) (EvL.cons (Ev.loc rfl) EvL.nil)))) (EvK.cons (Ev.loc rfl) EvK.nil) (fun q_ => rfl) (fun q_ => rfl) (fun q_ => rfl)) (bisect_right_lo_none c H) (kp_bisect_right _) (fun q_ => rfl)) rfl)
theorem refused_core (c : C1) (H : List HObj) {j : Nat} {l : List Str} (hj : H[j]? = some (.list (l.map V.str))) (hlen : l.length ≤ 100000) (hnum : ∀ H, Fn c.ct 3 (.val (.ref 265)) [.str sEnd] [] H H (.int 0)) :
  FnO c.ct 6 (.val (.ref 313)) [.ref j] H (H ++ [.list (List.replicate 3 (V.str loMsg))]) (.bool true) := by
 refine' fnO (ns := ["shelf"]) (vs := [.ref j]) (o := .ret (.bool true) (H ++ [.list (List.replicate 3 (V.str loMsg))])) ?ho ?hb ?hst ?hcd ?hns ?hnd ?hbind ?hbody ?hfin
 walk_at "t_of"
 case hbind => exact bind1 fun q_ => Looks.of_pure rfl
 case hbody =>
  intro A outer env hS hA hout hfr; dsimp only at hS
  refine ExA.cons (Es.at (Es.assignS (Ev.tup (EvL.cons (Ev.eqv (Ev.sliceL (Ev.loc rfl) EvP.none EvP.none EvP.none (Lsy.ref hj) (by decide) (le_size (by rw [List.length_map]; lia)) (fun q_ q_ => ⟨_, rfl⟩)) (congrArg V.lst (pick_all _))) (EvL.cons (Ev.lstAt (i := H.length) EvL.nil (Nat.le_of_ble_eq_true rfl) rfl rfl) EvL.nil))) rfl (stos_cons (il hS rfl) (stos_cons (il hS rfl) stos_nil)) (sw_of hS (by intro e he; cases e; dsimp only at he; subst he; rfl)) (ss_of hS (by intro e he; cases e; dsimp only at he; subst he; rfl)))) (ExA.cons (EsA.for (SrcE.of (Ev.tup (EvL.cons (Ev.tup (EvL.cons (gV (g_bisect_left _) (kind_of hS rfl)) (EvL.cons Ev.int EvL.nil))) (EvL.cons (Ev.tup (EvL.cons (gV (g_bisect_right _) (kind_of hS rfl)) (EvL.cons Ev.int EvL.nil))) (EvL.cons (Ev.tup (EvL.cons (gV (g_insort_right _) (kind_of hS rfl)) (EvL.cons Ev.str EvL.nil))) EvL.nil)))) Src.tup) rfl (FoA.cons trivial (Ast.tup (AsL.cons (Ast.name (.inr ⟨(il hS rfl), rfl⟩)) (AsL.cons (Ast.name (.inr ⟨(il hS rfl), rfl⟩)) AsL.nil)) fw_nonSeq) (ExA.one (EsA.eqH (EsA.tryAppend (j := H.length) (l := List.replicate 0 (V.str loMsg)) hA (hout.app _) hfr (ExX.expr (EvX.call (Ev.loc rfl) (EvA.kw (kv := [("key", _)]) (EvL.cons (Ev.loc rfl) (EvL.cons (Ev.loc rfl) (EvL.cons (Ev.una Ev.int Una.neg) EvL.nil))) (EvK.cons (gV (g_law_number _) (kind_of hS rfl)) EvK.nil) (fun q_ => rfl) (fun q_ => rfl) (fun q_ => rfl)) ((bisect_left_lo c _).le (by decide)) (kp_bisect_left _) (fun q_ => rfl)) (in_of hS (by intro e he; cases e; dsimp only at he; subst he; rfl)) rfl) rfl rfl (no_name rfl) (kind_of hS rfl) (by simp) (Nat.le_of_ble_eq_true rfl) rfl rfl rfl rfl (g_str _) (by boot_by_name) (kind_of hS rfl) (g_ValueError _) (by boot_by_name) (kind_of hS rfl) rfl rfl (in_of hS (by intro e he; cases e; dsimp only at he; subst he; rfl)) rfl) (set_rep H 0 _))) (FoA.cons trivial (Ast.tup (AsL.cons (Ast.name (.inr ⟨(il hS rfl), rfl⟩)) (AsL.cons (Ast.name (.inr ⟨(il hS rfl), rfl⟩)) AsL.nil)) fw_nonSeq) (ExA.one (EsA.eqH (EsA.tryAppend (j := H.length) (l := List.replicate 1 (V.str loMsg)) hA (hout.app _) hfr (ExX.expr (EvX.call (Ev.loc rfl) (EvA.kw (kv := [("key", _)]) (EvL.cons (Ev.loc rfl) (EvL.cons (Ev.loc rfl) (EvL.cons (Ev.una Ev.int Una.neg) EvL.nil))) (EvK.cons (gV (g_law_number _) (kind_of hS rfl)) EvK.nil) (fun q_ => rfl) (fun q_ => rfl) (fun q_ => rfl)) ((bisect_right_lo c _).le (by decide)) (kp_bisect_right _) (fun q_ => rfl)) (in_of hS (by intro e he; cases e; dsimp only at he; subst he; rfl)) rfl) rfl rfl (no_name rfl) (kind_of hS rfl) (by simp) (Nat.le_of_ble_eq_true rfl) rfl rfl rfl rfl (g_str _) (by boot_by_name) (kind_of hS rfl) (g_ValueError _) (by boot_by_name) (kind_of hS rfl) rfl rfl (in_of hS (by intro e he; cases e; dsimp only at he; subst he; rfl)) rfl) (set_rep H 1 _))) (FoA.cons trivial (Ast.tup (AsL.cons (Ast.name (.inr ⟨(il hS rfl), rfl⟩)) (AsL.cons (Ast.name (.inr ⟨(il hS rfl), rfl⟩)) AsL.nil)) fw_nonSeq) (ExA.one (EsA.eqH (EsA.tryAppend (j := H.length) (l := List.replicate 2 (V.str loMsg)) hA (hout.app _) hfr (ExX.expr (EvX.call (Ev.loc rfl) (EvA.kw (kv := [("key", _)]) (EvL.cons (Ev.loc rfl) (EvL.cons (Ev.loc rfl) (EvL.cons (Ev.una Ev.int Una.neg) EvL.nil))) (EvK.cons (gV (g_law_number _) (kind_of hS rfl)) EvK.nil) (fun q_ => rfl) (fun q_ => rfl) (fun q_ => rfl)) ((insort_lo c _ (kp_law_number _) (fun w x r => by obtain ⟨_, rfl⟩ := r.inv; rfl) (hnum _)).le (by decide)) (kp_insort_right _) (fun q_ => rfl)) (in_of hS (by intro e he; cases e; dsimp only at he; subst he; rfl)) rfl) rfl rfl (no_name rfl) (kind_of hS rfl) (by simp) (Nat.le_of_ble_eq_true rfl) rfl rfl rfl rfl (g_str _) (by boot_by_name) (kind_of hS rfl) (g_ValueError _) (by boot_by_name) (kind_of hS rfl) rfl rfl (in_of hS (by intro e he; cases e; dsimp only at he; subst he; rfl)) rfl) (set_rep H 2 _))) (FoA.nil trivial)))) (fun q_ q_ => rfl)) (Ex.at (Ex.stop (Es.ret (Ev.boolOp (BoV.nextb (Ev.cmp (Ev.loc rfl) (Ev.bin (Ev.lst (EvL.cons Ev.str EvL.nil)) Ev.int (Bin.mulL Lsy.lst (by decide) (by decide) (Nat.le_of_ble_eq_true rfl) (by decide))) (by have := Cmp.eqStrs (C := c.ct) (n := 5) (H := H ++ [HObj.list (List.replicate 3 (V.str loMsg))]) (u := .ref H.length) (v := .lst (List.replicate 3 (V.str loMsg))) (xs := List.replicate 3 loMsg) (ys := List.replicate 3 loMsg) (.ref (by simp)) .lst; rw [decide_eq_true rfl] at this; exact this) rfl) Tru.bool (by rfl) (BoV.one (Ev.cmp (Ev.loc rfl) (Ev.loc rfl) (by have := Cmp.eqStrs (C := c.ct) (n := 5) (H := H ++ [HObj.list (List.replicate 3 (V.str loMsg))]) (u := .ref j) (v := .lst (l.map V.str)) (xs := l) (ys := l) (.ref (getElem?_append_some hj)) .lst; rw [decide_eq_true rfl] at this; exact this) rfl)) (fun q_ => rfl)))) (by intro _ _ h; cases h))))
 case hfin => exact Fin.ret
theorem fn_refused (c : C1) (H : List HObj) {j : Nat} {l : List Str} (hj : H[j]? = some (.list (l.map V.str))) (hlen : l.length ≤ 100000) (hnum : ∀ H, Fn c.ct 3 (.val (.ref 265)) [.str sEnd] [] H H (.int 0)) :
  FnO c.ct 6 (.val (.ref 313)) [.ref j] H H (.bool true) := FnO.shed (refused_core c H hj hlen hnum) (Nat.le_refl _) (.dat rfl) id
theorem facs_succ : ∀ m, m ≤ 4 → facs.getD (m + 1) 0 = facs.getD m 0 * (1 + (m : Int)) := by decide
theorem share_snoc {rs : List Int} {j : Nat} (hl : rs.length ≤ 4) (i : Nat) : shareN (rs ++ [(j : Int)]) i = if j < i then shareN rs i * (1 + (rs.count (j : Int) : Int)) else shareN rs i := by
 induction i with
 | zero => rfl
 | succ i ih =>
  have hc : rs.count (j : Int) ≤ 4 := Nat.le_trans List.count_le_length hl
  unfold shareN
  rw [ih, List.count_append]
  by_cases h : j = i
  ·subst h
   rw [if_neg (by lia), if_pos (by exact Nat.lt_succ_self _)]
   rw [show List.count (j : Int) [(j : Int)] = 1 by simp, facs_succ _ hc, Int.mul_assoc]
  ·rw [show List.count (i : Int) [(j : Int)] = 0 by rw [List.count_singleton]; simp; lia, Nat.add_zero]
   by_cases h2 : j < i
   ·rw [if_pos h2, if_pos (by exact Nat.lt_succ_of_lt (by assumption)), Int.mul_assoc, Int.mul_assoc, Int.mul_comm (facs.getD _ _)]
   ·rw [if_neg h2, if_neg (by lia)]
noncomputable def cumI (rs : List Int) : Nat → Int
 | 0 => 0
 | r + 1 => cumI rs r + (1 + (rs.count (r : Int) : Int))
theorem cum_succ (rs : List Int) (r : Nat) : cumI rs (r + 1) = cumI rs r + (1 + (rs.count (r : Int) : Int)) := rfl
theorem getD_left {α : Type} {l l' : List α} {i : Nat} {d : α} (h : i < l.length) : (l ++ l').getD i d = l.getD i d := by
 rw [List.getD_eq_getElem?_getD, List.getD_eq_getElem?_getD, List.getElem?_append_left h]
theorem cum_mono {rs : List Int} {a b : Nat} (h : a ≤ b) : cumI rs a ≤ cumI rs b := by
 induction h with
 | refl => exact Int.le_refl _
 | step _ ih => rw [cum_succ]; lia
theorem cum_nonneg {rs : List Int} (a : Nat) : 0 ≤ cumI rs a := cum_mono (Nat.zero_le a)
noncomputable def Rk5 (rs : List Int) : Prop := ∀ x ∈ rs, 0 ≤ x ∧ x < 5
theorem cum_cons (rs : List Int) (k : Nat) (r : Nat) : cumI ((k : Int) :: rs) r = cumI rs r + (if k < r then 1 else 0) := by
 induction r with
 | zero => rw [if_neg (Nat.not_lt_zero k)]; rfl
 | succ r ih =>
  rw [cum_succ, cum_succ, ih, List.count_cons]
  rcases Nat.lt_trichotomy k r with h | h | h
  ·rw [if_pos h, if_pos (Nat.lt_succ_of_lt h), beq_false_of_ne (fun e => Nat.ne_of_lt h (Int.ofNat_inj.mp e)), if_neg Bool.false_ne_true, Nat.add_zero]
   exact Int.add_right_comm ..
  ·subst h; rw [if_neg (Nat.lt_irrefl k), if_pos (beq_self_eq_true _), if_pos (Nat.lt_succ_self k), Int.add_zero, Int.natCast_succ, ← Int.add_assoc 1, Int.add_assoc (cumI rs k)]
  ·rw [if_neg (Nat.not_lt.mpr (Nat.le_of_lt h)), if_neg (Nat.not_lt.mpr h), beq_false_of_ne (fun e => Nat.ne_of_gt h (Int.ofNat_inj.mp e)), if_neg Bool.false_ne_true, Nat.add_zero, Int.add_zero, Int.add_zero]
theorem cum5 {rs : List Int} (h : Rk5 rs) : cumI rs 5 = 5 + rs.length := by
 induction rs with
 | nil => rfl
 | cons x rs ih =>
  have hx := h x (.head _)
  obtain ⟨k, rfl⟩ := Int.eq_ofNat_of_zero_le hx.1
  rw [cum_cons, ih fun y hy => h y (.tail _ hy), if_pos (Int.ofNat_lt.mp hx.2), List.length_cons, Int.natCast_succ, Int.add_assoc]
theorem sum_cum {rs : List Int} (hl : rs.length ≤ 4) (r : Nat) (h : r ≤ 5) : ((List.range r).map fun (less : Nat) => share (rs ++ [(less : Int)])).sum = share rs * cumI rs r := by
 induction r with
 | zero => simp [cumI]
 | succ r ih =>
  rw [List.range_succ, List.map_append, List.sum_append, ih (Nat.le_of_lt h), cum_succ]
  simp only [List.map_cons, List.map_nil, List.sum_cons, List.sum_nil]
  rw [show share (rs ++ [(r : Int)]) = share rs * (1 + (rs.count (r : Int) : Int)) by unfold share; rw [share_snoc hl 5, if_pos (by assumption)]]
  rw [Int.mul_add (share rs) (cumI rs r)]; lia
theorem start_take {rs : List Int} {x : Int} (k : Nat) (h : k ≤ rs.length) : startN (rs ++ [x]) k = startN rs k := by
 induction k with
 | zero => rfl
 | succ k ih =>
  unfold startN
  rw [ih (Nat.le_of_lt h)]
  unfold sumShares
  rw [List.take_append_of_le_length (Nat.le_of_lt h), getD_left h]
noncomputable def arcA (e : Int) (rs : List Int) : Int := e * wholeN rs.length - startN rs rs.length * 16777216
noncomputable def arcB (rs : List Int) : Int := share rs * 16777216
noncomputable def In (e : Int) (rs : List Int) : Prop := 0 ≤ arcA e rs ∧ arcA e rs < arcB rs
theorem arcA_snoc {e : Int} {rs : List Int} {r : Nat} (hl : rs.length ≤ 4) (hr : r < 5) : arcA e (rs ++ [(r : Int)]) = arcA e rs * (5 + (rs.length : Int)) - cumI rs r * arcB rs := by
 unfold arcA arcB
 rw [List.length_append, List.length_singleton]
 rw [show wholeN (rs.length + 1) = wholeN rs.length * (5 + (rs.length : Int)) from rfl, show ∀ l, startN l (rs.length + 1) = startN l rs.length * (5 + (rs.length : Int)) + sumShares l rs.length from fun q_ => rfl]
 rw [start_take _ (Nat.le_refl _)]
 have h1 : sumShares (rs ++ [(r : Int)]) rs.length = share rs * cumI rs r := by
  unfold sumShares
  rw [List.take_append_of_le_length (Nat.le_refl _), List.take_length, show (rs ++ [(r : Int)]).getD rs.length 0 = (r : Int) by rw [List.getD_eq_getElem?_getD, List.getElem?_append_right (Nat.le_refl _)]; simp]
  exact sum_cum hl r (by exact Nat.le_of_lt (by assumption))
 rw [h1, Int.sub_mul, Int.add_mul, Int.mul_assoc e]
 rw [show share rs * cumI rs r * 16777216 = cumI rs r * (share rs * 16777216) by rw [Int.mul_comm (share rs), Int.mul_assoc]]
 rw [show startN rs rs.length * 16777216 * (5 + (rs.length : Int)) = startN rs rs.length * (5 + (rs.length : Int)) * 16777216 by rw [Int.mul_assoc, Int.mul_comm 16777216, ← Int.mul_assoc]]
 lia
theorem arcB_snoc {rs : List Int} {r : Nat} (hl : rs.length ≤ 4) (hr : r < 5) : arcB (rs ++ [(r : Int)]) = arcB rs * (1 + (rs.count (r : Int) : Int)) := by
 unfold arcB
 rw [show share (rs ++ [(r : Int)]) = share rs * (1 + (rs.count (r : Int) : Int)) by unfold share; rw [share_snoc hl 5, if_pos (by omega)]]
 rw [Int.mul_assoc, Int.mul_comm (1 + _), ← Int.mul_assoc]
theorem arcB_pos {rs : List Int} (hl : rs.length ≤ 5) : 16777216 ≤ arcB rs := by
 unfold arcB
 have := share_bound hl
 lia
theorem in_snoc {e : Int} {rs : List Int} {r : Nat} (hl : rs.length ≤ 4) (hr : r < 5) : In e (rs ++ [(r : Int)]) ↔ cumI rs r * arcB rs ≤ arcA e rs * (5 + (rs.length : Int)) ∧ arcA e rs * (5 + (rs.length : Int)) < cumI rs (r + 1) * arcB rs := by
 unfold In
 rw [arcA_snoc hl hr, arcB_snoc hl hr, show cumI rs (r + 1) = cumI rs r + (1 + (rs.count (r : Int) : Int)) from rfl, Int.add_mul, Int.mul_comm (1 + _)]
 lia
theorem in_prefix {e : Int} {rs : List Int} {r : Nat} (h5 : Rk5 rs) (hl : rs.length ≤ 4) (hr : r < 5) (h : In e (rs ++ [(r : Int)])) : In e rs := by
 obtain ⟨h1, h2⟩ := (in_snoc hl hr).mp h
 have hb := arcB_pos (rs := rs) (by lia)
 have c1 : cumI rs (r + 1) ≤ 5 + rs.length := by rw [← cum5 h5]; exact cum_mono (by assumption)
 have c2 : cumI rs (r + 1) * arcB rs ≤ (5 + (rs.length : Int)) * arcB rs := Int.mul_le_mul_of_nonneg_right c1 (by lia)
 have c3 : 0 ≤ cumI rs r * arcB rs := Int.mul_nonneg (cum_nonneg r) (by lia)
 constructor
 ·rcases Int.lt_or_le (arcA e rs) 0 with q | q
  ·exfalso
   have := Int.mul_lt_mul_of_pos_right q (show (0 : Int) < 5 + rs.length by lia)
   lia
  ·exact q
 ·rcases Int.lt_or_le (arcA e rs) (arcB rs) with q | q
  ·exact q
  ·exfalso
   have := Int.mul_le_mul_of_nonneg_right q (show (0 : Int) ≤ 5 + rs.length by exact Int.ofNat_nonneg _)
   rw [Int.mul_comm (arcB rs)] at this
   omega
theorem arcA_mono {e e' : Int} (h : e ≤ e') {rs : List Int} (hl : rs.length ≤ 5) : arcA e rs ≤ arcA e' rs := by
 unfold arcA
 have := Int.mul_le_mul_of_nonneg_right h (show 0 ≤ wholeN rs.length by have := whole_small hl; lia)
 lia
theorem in_step {e e' : Int} (he : e ≤ e') {rs : List Int} {r r' : Nat} (hl : rs.length ≤ 4) (hr : r < 5) (hr' : r' < 5) (h : In e (rs ++ [(r : Int)])) (h' : In e' (rs ++ [(r' : Int)])) : r ≤ r' := by
 rcases Nat.lt_or_ge r' r with q | q
 ·exfalso
  obtain ⟨h1, _⟩ := (in_snoc hl hr).mp h
  obtain ⟨_, h2⟩ := (in_snoc hl hr').mp h'
  have c1 : cumI rs (r' + 1) * arcB rs ≤ cumI rs r * arcB rs := Int.mul_le_mul_of_nonneg_right (cum_mono q) (by have := arcB_pos (rs := rs) (by lia); lia)
  have c2 := Int.mul_le_mul_of_nonneg_right (arcA_mono he (rs := rs) (by lia)) (show (0 : Int) ≤ 5 + rs.length by lia)
  omega
 ·exact q
theorem in_take {e : Int} {us rs : List Int} (h5 : Rk5 (rs ++ us)) (hl : (rs ++ us).length ≤ 5) (h : In e (rs ++ us)) : In e rs := by
 induction us generalizing rs with
 | nil => rw [List.append_nil] at h; exact h
 | cons u us ih =>
  have e1 : rs ++ u :: us = (rs ++ [u]) ++ us := by simp
  rw [e1] at h h5 hl
  have ih := ih h5 hl h
  have hu := h5 u (by simp)
  have hl' : rs.length ≤ 4 := by simp at hl; lia
  have e2 : u = ((u.toNat : Nat) : Int) := by lia
  rw [e2] at ih
  exact in_prefix (fun x hx => h5 x (by simp [hx])) hl' (by lia) ih
noncomputable def Whole (w : List Int) : Prop := w.length ≤ 5 ∧ (∀ k, k + 1 < w.length → w.getD k 0 ≠ 0) ∧ (w.getLast? = some 0 ∨ w.length = 5)
theorem whole_no {w us : List Int} {u : Int} (h : Whole w) (h' : Whole (w ++ u :: us)) : False := by
 obtain ⟨_, _, h3⟩ := h
 obtain ⟨g1, g2, _⟩ := h'
 rcases h3 with h3 | h3
 ·have hne : w ≠ [] := by rintro rfl; simp at h3
  have hp := List.length_pos_iff.mpr hne
  refine g2 (w.length - 1) (by simp; lia) ?_
  rw [getD_left (by exact Nat.sub_lt (by assumption) (by decide)), List.getD_eq_getElem?_getD]
  rw [List.getLast?_eq_getElem?] at h3
  rw [h3]; rfl
 ·simp at g1; lia
theorem lex_mono {e e' : Int} (he : e ≤ e') {u u' rs : List Int} (h5 : Rk5 (rs ++ u)) (h5' : Rk5 (rs ++ u')) (hw : Whole (rs ++ u)) (hw' : Whole (rs ++ u')) (hi : In e (rs ++ u)) (hi' : In e' (rs ++ u')) : lexLt u' u = false := by
 induction u generalizing u' rs with
 | nil => cases u' <;> rfl
 | cons x u ih =>
 cases u' with
 | nil =>
  rw [List.append_nil] at hw'
  exact (whole_no hw' hw).elim
 | cons y u' =>
  have e1 : rs ++ x :: u = (rs ++ [x]) ++ u := by simp
  have e2 : rs ++ y :: u' = (rs ++ [y]) ++ u' := by simp
  rw [e1] at h5 hw hi
  rw [e2] at h5' hw' hi'
  have hx := h5 x (by simp)
  have hy := h5' y (by simp)
  have hl : rs.length ≤ 4 := by have := hw.1; simp at this; lia
  have p1 := in_take h5 hw.1 hi
  have p2 := in_take h5' hw'.1 hi'
  rw [show x = ((x.toNat : Nat) : Int) by lia] at p1
  rw [show y = ((y.toNat : Nat) : Int) by lia] at p2
  have le := in_step he hl (by lia) (by lia) p1 p2
  unfold lexLt
  by_cases q : y = x
  ·subst q
   rw [if_pos rfl]
   exact ih h5 h5' hw hw' hi hi'
  ·rw [if_neg q, decide_eq_false]
   lia
theorem lexLt_cons (x y : Int) (a b : List Int) : lexLt (x :: a) (y :: b) = if x = y then lexLt a b else decide (x < y) := rfl
theorem lexLt_total {a b : List Int} (h : lexLt a b = false) (h' : lexLt b a = false) : a = b := by
 induction a generalizing b with
 | nil =>
  cases b with
  | nil => rfl
  | cons y b => exact nomatch (show true = false from h)
 | cons x a ih =>
  cases b with
  | nil => exact nomatch (show true = false from h')
  | cons y b =>
   rw [lexLt_cons] at h h'
   by_cases q : x = y
   ·subst q
    rw [if_pos rfl] at h h'
    rw [ih h h']
   ·rw [if_neg q] at h
    rw [if_neg fun z => q z.symm] at h'
    exact absurd (Int.le_antisymm (Int.not_lt.mp (of_decide_eq_false h')) (Int.not_lt.mp (of_decide_eq_false h))) q
theorem lexLt_irrefl (a : List Int) : lexLt a a = false := by
 induction a with
 | nil => rfl
 | cons x a ih => rw [lexLt_cons, if_pos rfl]; exact ih
theorem lexLt_trans {a b c : List Int} (h : lexLt a b = true) (h' : lexLt b c = true) : lexLt a c = true := by
 induction a generalizing b c with
 | nil =>
  cases c with
  | nil => cases b <;> exact nomatch (show false = true from h')
  | cons z c => rfl
 | cons x a ih =>
  cases b with
  | nil => exact nomatch (show false = true from h)
  | cons y b =>
   cases c with
   | nil => exact nomatch (show false = true from h')
   | cons z c =>
    rw [lexLt_cons] at h h' ⊢
    by_cases q : x = y
    ·subst q
     rw [if_pos rfl] at h
     by_cases q2 : x = z
     ·rw [if_pos q2] at h' ⊢; exact ih h h'
     ·rw [if_neg q2] at h' ⊢; exact h'
    ·rw [if_neg q] at h
     have h := of_decide_eq_true h
     have l : x < z := by
      by_cases q2 : y = z
      ·exact q2 ▸ h
      ·rw [if_neg q2] at h'; exact Int.lt_trans h (of_decide_eq_true h')
     rw [if_neg (Int.ne_of_lt l)]; exact decide_eq_true l
theorem in_unique {e : Int} {w w' : List Int} (h5 : Rk5 w) (h5' : Rk5 w') (hw : Whole w) (hw' : Whole w') (hi : In e w) (hi' : In e w') : w = w' :=
 lexLt_total (lex_mono (Int.le_refl e) (rs := []) h5' h5 hw' hw hi' hi) (lex_mono (Int.le_refl e) (rs := []) h5 h5' hw hw' hi hi')
noncomputable abbrev cs (x : Str) : List Nat := x.cps.toList
theorem str_ext {x y : Str} (h : cs x = cs y) : x = y := Str.ext' (Array.toList_inj.mp h)
theorem cs_append (x y : Str) : cs (x ++ y) = cs x ++ cs y := by unfold cs; rw [PySem.Str.cps_append, Array.toList_append]
theorem told_codes : (toldL.all fun x => decide (1 ≤ (cs x).length) && decide ((cs x).length ≤ 3) && (cs x).all fun c => decide (33 ≤ c) && decide (c ≤ 126)) = true := by decide +kernel
theorem told_cs {x : Str} (h : x ∈ toldL) : 1 ≤ (cs x).length ∧ (cs x).length ≤ 3 ∧ ∀ c ∈ cs x, 33 ≤ c ∧ c ≤ 126 := by
 have := List.all_eq_true.mp told_codes x h
 simp only [Bool.and_eq_true, decide_eq_true_eq, List.all_eq_true] at this
 exact ⟨this.1.1, this.1.2, this.2⟩
theorem told_nosp {x : Str} (h : x ∈ toldL) : (cs x).all (fun c => !Unicode.isSpace c) = true := by
 refine List.all_eq_true.mpr fun c hc => ?_
 obtain ⟨h1, h2⟩ := (told_cs h).2.2 c hc
 rw [KWk.nosp h1 h2]; rfl
set_option tactic.hygienic true in
theorem words_fin (x : Str) : Txt.words x = KWd.fin (KWd.scan x) := by
 have e := KWd.wordsOf_scan x
 unfold Txt.words
 split
 ·rename_i h
  have h' := eq_of_beq h
  rw [h'] at e
  rw [← e]
  have : Builtin.Str.strSub x 0 x.length = x := str_ext (by show (Builtin.Str.strSub x 0 x.length).cps.toList = _; rw [PySem.StrLaws.strSub_toList]; simp [Str.length]; exact List.take_of_length_le (by simp))
  simp [this]
 ·exact e
theorem cs_end : cs sEnd = [] := by decide
theorem cs_sp : cs sSp = [32] := by decide
theorem fold_join (ps : List Str) (x : Str) (ws : List Str) (h : ∀ p ∈ x :: ps, p ∈ toldL) : (cs (Str.join sSp (x :: ps))).foldl KWd.step (ws, Str.empty) = (ws ++ (x :: ps).dropLast, (x :: ps).getLast (by simp)) := by
 have one : ∀ ws, (cs x).foldl KWd.step (ws, Str.empty) = (ws, x) := fun ws => by
  rw [KWk.fold_plain _ _ (told_nosp (h x (.head _))), PySem.Str.empty_append, show (⟨(cs x).toArray⟩ : Str) = x from str_ext (by simp)]
 induction ps generalizing x ws with
 | nil =>
  show (cs x).foldl _ _ = _
  rw [one, List.dropLast_singleton, List.append_nil]; rfl
 | cons y ps ih =>
  show (cs (x ++ sSp ++ Str.join sSp (y :: ps))).foldl _ _ = _
  rw [cs_append, cs_append, List.foldl_append, List.foldl_append, one, cs_sp]
  have e : KWd.step (ws, x) 32 = (ws ++ [x], Str.empty) := by
   unfold KWd.step
   rw [if_pos (by decide), if_neg (by rw [KWk.len_list]; exact Nat.ne_of_gt (told_cs (h x (.head _))).1)]
  show List.foldl KWd.step (KWd.step (ws, x) 32) _ = _
  rw [e, ih y (ws ++ [x]) (fun p m => h p (.tail _ m)) fun ws => by
   rw [KWk.fold_plain _ _ (told_nosp (h y (.tail _ (.head _)))), PySem.Str.empty_append, show (⟨(cs y).toArray⟩ : Str) = y from str_ext (by simp)]]
  rw [List.append_assoc]; rfl
theorem words_join {ps : List Str} (h : ∀ p ∈ ps, p ∈ toldL) : Txt.words (Txt.join sSp ps) = ps := by
 rw [words_fin]
 unfold Txt.join
 rw [PySem.StrLaws.glued_eq_join]
 cases ps with
 | nil => decide
 | cons x ps =>
  unfold KWd.scan
  rw [show (Str.join sSp (x :: ps)).cps.toList = cs (Str.join sSp (x :: ps)) from rfl, fold_join ps x [] h]
  unfold KWd.fin
  have hm : (x :: ps).getLast (by simp) ∈ toldL := h _ (List.getLast_mem _)
  have hl : ((x :: ps).getLast (by simp)).length ≠ 0 := by
   rw [KWk.len_list]; exact Nat.ne_of_gt (told_cs hm).1
  rw [if_neg hl, List.nil_append]
  exact List.dropLast_concat_getLast _
theorem spaces_join {ps : List Str} (h : ∀ p ∈ ps, p ∈ toldL) : (Builtin.Str.spaceWords (Txt.join sSp ps) ((Txt.join sSp ps).length + 1)).length = ps.length := by
 have e := KWd.wordsOf_scan (Txt.join sSp ps)
 have e2 := words_fin (Txt.join sSp ps)
 rw [words_join h] at e2
 rw [← e2] at e
 have := congrArg List.length e
 rw [List.length_map] at this
 exact this
theorem key_all (P : Params) : ((EXT P).all fun e => toldL.any fun x => Value.isStrOf x e.key) = true := by kernel_rfl
theorem tok_told {P : Params} {x : Str} (h : tokB P x = true) : x ∈ toldL := by
 unfold tokB findBy at h
 rw [Option.isSome_map] at h
 obtain ⟨e, he⟩ := Option.isSome_iff_exists.mp h
 have h1 := Array.find?_some he
 have h2 : e ∈ EXT P := Array.mem_of_find?_eq_some he
 have h3 := Array.all_eq_true'.mp (key_all P) e h2
 obtain ⟨y, hy, h4⟩ := List.any_eq_true.mp h3
 have : x = y := by
  cases hk : e.key <;> rw [hk] at h1 h4 <;> simp [Value.isStrOf] at h1 h4
  exact h1.symm.trans h4
 exact this ▸ hy
theorem tok_of {P : Params} {x : Str} {k : Nat} (h : toldL[k]? = some x) : tokB P x = true := by
 obtain ⟨t, e⟩ := tok_at P h
 unfold tokB; rw [e]; rfl
theorem sl_upto (n len : Nat) : Builtin.Str.strSliceIndices none (some (n : Int)) 1 len = (List.range (min n len)).map (0 + ·) := by
 have e2 : max (0 : Int) (min (n : Int) (len : Int)) = ((min n len : Nat) : Int) := by lia
 simp only [Builtin.Str.strSliceIndices, show ¬ ((n : Int) < 0) by lia, if_false, show ((1 : Int) > 0) = True by simp, if_true, e2]
 have := sliceRange_1 0 (min n len)
 simpa using this
theorem sl_from (n len : Nat) : Builtin.Str.strSliceIndices (some (n : Int)) none 1 len = (List.range (len - min n len)).map (min n len + ·) := by
 have e2 : max (0 : Int) (min (n : Int) (len : Int)) = ((min n len : Nat) : Int) := by lia
 simp only [Builtin.Str.strSliceIndices, show ¬ ((n : Int) < 0) by lia, if_false, show ((1 : Int) > 0) = True by simp, if_true, e2]
 exact sliceRange_1 (min n len) len
theorem picks_cs (x : Str) (is : List Nat) : is.filterMap (x.cps[·]?) = is.filterMap ((cs x)[·]?) := fm_congr fun i q_ => by simp
set_option tactic.hygienic true in
theorem head_cs (x : Str) (n : Nat) : cs (headOf x (n : Int)) = (cs x).take n := by
 have hl : (cs x).length = x.length := by simp [Str.length]
 unfold headOf Txt.slice
 rw [sl_upto]
 split
 ·rename_i h
  have h' : min n x.length = x.length := by simpa using h
  rw [List.take_of_length_le (by lia)]
 ·show ((List.map _ _).filterMap _) = _
  rw [picks_cs, pick_run', List.drop_zero]
  rcases Nat.le_total n x.length with q | q
  ·rw [Nat.min_eq_left q]
  ·rw [Nat.min_eq_right q, List.take_of_length_le (by exact Nat.le_refl _), List.take_of_length_le (by assumption)]
set_option tactic.hygienic true in
theorem tail_cs (x : Str) (n : Nat) : cs (tailOf x (n : Int)) = (cs x).drop n := by
 have hl : (cs x).length = x.length := by simp [Str.length]
 unfold tailOf Txt.slice
 rw [sl_from]
 split
 ·rename_i h
  have h' : x.length - min n x.length = x.length := by simpa using h
  rcases Nat.eq_zero_or_pos x.length with q | q
  ·rw [List.drop_of_length_le (by lia)]; exact List.eq_nil_of_length_eq_zero (by assumption)
  ·have : n = 0 := by lia
   subst this; simp
 ·show ((List.map _ _).filterMap _) = _
  rw [picks_cs, pick_run']
  rcases Nat.le_total n x.length with q | q
  ·rw [Nat.min_eq_left q, List.take_of_length_le (by rw [List.length_drop, hl]; exact Nat.le_refl _)]
  ·rw [Nat.min_eq_right q, Nat.sub_self, List.take_zero, List.drop_of_length_le (by lia)]
theorem no_tok {P : Params} {x : Str} (h : 32 ∈ cs x) : tokB P x = false := by
 cases q : tokB P x with
 | false => rfl
 | true =>
  have := (told_cs (tok_told q)).2.2 32 h
  lia
theorem size_tok {P : Params} {x p : Str} {k : Nat} {rest : List Nat} (hp : toldL[k]? = some p) (hx : cs x = cs p ++ rest) (hr : rest = [] ∨ ∃ r, rest = 32 :: r) : headOf x (sizeIn P x) = p ∧ cs (tailOf x (sizeIn P x)) = rest := by
 obtain ⟨l1, l3, _⟩ := told_cs (List.mem_of_getElem? hp)
 have hh : ∀ n : Nat, (cs p).length ≤ n → rest = [] ∨ n = (cs p).length → headOf x (n : Int) = p := fun n h h' => str_ext (by
  rw [head_cs, hx]
  rcases h' with rfl | rfl
  ·rw [List.append_nil, List.take_of_length_le h]
  ·rw [List.take_append_of_le_length (Nat.le_refl _), List.take_length])
 have hno : ∀ n : Nat, (cs p).length < n → (∃ r, rest = 32 :: r) → tokB P (headOf x (n : Int)) = false := fun n h ⟨r, hr⟩ => no_tok (by
  rw [head_cs, hx, hr, List.take_append]
  refine List.mem_append_right _ ?_
  obtain ⟨m, hm⟩ : ∃ m, n - (cs p).length = m + 1 := ⟨n - (cs p).length - 1, by lia⟩
  rw [hm]; simp)
 have ht := tok_of (P := P) hp
 unfold sizeIn
 rcases hr with hr | hr
 ·have h3 := hh 3 l3 (.inl hr)
  rw [show headOf x 3 = p from h3, if_pos ht]
  refine ⟨h3, ?_⟩
  have := tail_cs x 3
  rw [hx, hr] at this
  rw [show cs (tailOf x 3) = _ from this, hr, List.append_nil, List.drop_of_length_le l3]
 ·have hd : ∀ n : Nat, n = (cs p).length → cs (tailOf x (n : Int)) = rest := fun n h => by rw [tail_cs, hx, h, List.drop_left]
  have : (cs p).length = 1 ∨ (cs p).length = 2 ∨ (cs p).length = 3 := by lia
  rcases this with q | q | q
  ·rw [if_neg (by rw [show headOf x 3 = headOf x ((3 : Nat) : Int) from rfl, hno 3 (by lia) hr]; exact Bool.false_ne_true), if_neg (by rw [show headOf x 2 = headOf x ((2 : Nat) : Int) from rfl, hno 2 (by lia) hr]; exact Bool.false_ne_true)]
   exact ⟨hh 1 (by lia) (.inr (by lia)), hd 1 (by lia)⟩
  ·have h2 := hh 2 (by lia) (.inr (by lia))
   rw [if_neg (by rw [show headOf x 3 = headOf x ((3 : Nat) : Int) from rfl, hno 3 (by lia) hr]; exact Bool.false_ne_true), show headOf x 2 = p from h2, if_pos ht]
   exact ⟨h2, hd 2 (by lia)⟩
  ·have h3 := hh 3 (by omega) (.inr (by lia))
   rw [show headOf x 3 = p from h3, if_pos ht]
   exact ⟨h3, hd 3 (by lia)⟩
theorem size_sp {P : Params} {x : Str} {r : List Nat} (hx : cs x = 32 :: r) : headOf x (sizeIn P x) = sSp ∧ cs (tailOf x (sizeIn P x)) = r := by
 have hno : ∀ n : Nat, tokB P (headOf x ((n + 1 : Nat) : Int)) = false := fun n => no_tok (by rw [head_cs, hx]; simp)
 unfold sizeIn
 rw [if_neg (by rw [show headOf x 3 = headOf x ((2 + 1 : Nat) : Int) from rfl, hno 2]; exact Bool.false_ne_true), if_neg (by rw [show headOf x 2 = headOf x ((1 + 1 : Nat) : Int) from rfl, hno 1]; exact Bool.false_ne_true)]
 refine ⟨str_ext ?_, ?_⟩
 ·have := head_cs x 1
  rw [hx] at this
  rw [show cs (headOf x 1) = _ from this, cs_sp]; rfl
 ·have := tail_cs x 1
  rw [hx] at this
  exact this
theorem cs_ne {x : Str} {c : Nat} {l : List Nat} (h : cs x = c :: l) : x ≠ sEnd := fun z => by rw [z, cs_end] at h; cases h
theorem cut_tok {P : Params} {x p : Str} {rest : List Nat} {j : Nat} {ns : List Int} {k : Nat} (hp : toldL[j]? = some p) (hx : cs x = cs p ++ rest) (hr : rest = [] ∨ ∃ r, rest = 32 :: r) (hc : ∀ y, cs y = rest → Cuts P y ns k) : Cuts P x ((7 + (j : Int)) :: ns) (k + 1) := by
 have e := size_tok (P := P) (x := x) hp hx hr
 obtain ⟨l1, _, l4⟩ := told_cs (List.mem_of_getElem? hp)
 obtain ⟨t, ht⟩ := tok_at P hp
 refine .tok (fun z => ?_) (fun z => ?_) (t := t) (by rw [e.1]; exact ht) (hc _ e.2)
 ·rw [z, cs_end] at hx
  rw [(List.append_eq_nil_iff.mp hx.symm).1] at l1
  exact absurd l1 (Nat.lt_irrefl 0)
 ·have := l4 32 (by rw [← e.1, z, cs_sp]; exact .head _)
  omega
theorem cut_sp {P : Params} {x : Str} {r : List Nat} {ns : List Int} {k : Nat} (hx : cs x = 32 :: r) (hc : ∀ y, cs y = r → Cuts P y ns k) : Cuts P x ns (k + 1) :=
 have f := size_sp (P := P) hx
 .space (cs_ne hx) f.1 (hc _ f.2)
theorem cuts_join {P : Params} {ti : Str → Nat} {ps : List Str} (h : ∀ p ∈ ps, toldL[ti p]? = some p) : ∃ k, k ≤ 2 * ps.length ∧ ∀ x, cs x = cs (Str.join sSp ps) → Cuts P x (ps.map fun s => 7 + (ti s : Int)) k := by
 induction ps with
 | nil => exact ⟨0, Nat.le_refl _, fun x hx => by
   obtain rfl : x = sEnd := str_ext (by rw [hx]; decide)
   exact .done⟩
 | cons p ps ih =>
  obtain ⟨k, hk, hc⟩ := ih fun p m => h p (.tail _ m)
  have hp := h p (.head _)
  cases ps with
  | nil => exact ⟨1, (by decide : 1 ≤ 2 * 1), fun x hx => cut_tok (rest := []) hp (by rw [hx, List.append_nil]; rfl) (.inl rfl) fun y hy => by
    obtain rfl : y = sEnd := str_ext (by rw [hy]; decide)
    exact .done⟩
  | cons q ps =>
   refine ⟨k + 1 + 1, Nat.add_le_add_right hk 2, fun x hx => cut_tok hp (rest := 32 :: cs (Str.join sSp (q :: ps))) ?_ (.inr ⟨_, rfl⟩) fun y hy => cut_sp hy hc⟩
   rw [hx]
   show cs (p ++ sSp ++ Str.join sSp (q :: ps)) = _
   rw [cs_append, cs_append, cs_sp, List.append_assoc]; rfl
section
structure Trio (a b c : Str) : Prop where
 ta : a ∈ toldL
 tb : b ∈ toldL
 tc : c ∈ toldL
 ab : numOf a < numOf b
 bc : numOf b < numOf c
theorem told_num_range {x : Str} (h : x ∈ toldL) : 208 ≤ numOf x ∧ numOf x < 256 := by
 obtain ⟨k, hk⟩ := List.getElem?_of_mem h
 have lt := (List.getElem?_eq_some_iff.mp hk).1
 rw [told_len] at lt
 have := told_num hk
 omega
theorem num_end : numOf sEnd = 0 := if_pos rfl
theorem num_p : numOf sP = 256 := by decide +kernel
theorem num_pp : numOf sPP = 256 := by decide +kernel
noncomputable def InO (a b c x : Str) : Prop := x = sEnd ∨ x = a ∨ x = b ∨ x = c ∨ x = sP ∨ x = sPP
noncomputable def rkO (a b c x : Str) : Nat := if x = sEnd then 0 else if x = a then 1 else if x = b then 2 else if x = c then 3 else 4
noncomputable def nnO (a b c : Str) (r : Nat) : Int := if r = 0 then 0 else if r = 1 then numOf a else if r = 2 then numOf b else if r = 3 then numOf c else 256
theorem place_ok {A B : Int} {n : Nat} (h0 : 0 ≤ A) (h1 : A < B) (hn : 0 < n) : ∃ i : Nat, (i : Int) = A * n / B ∧ (i : Int) * B ≤ A * n ∧ A * n < ((i : Int) + 1) * B ∧ i < n := by
 have hB : 0 < B := Int.lt_of_le_of_lt h0 h1
 have q0 : 0 ≤ A * n := Int.mul_nonneg h0 (Int.natCast_nonneg n)
 have q1 : A * n < n * B := Int.mul_comm B n ▸ Int.mul_lt_mul_of_pos_right h1 (Int.natCast_pos.mpr hn)
 have e : (((A * n / B).toNat : Nat) : Int) = A * n / B := Int.toNat_of_nonneg (Int.ediv_nonneg q0 (Int.le_of_lt hB))
 have l : A * n / B < n := Int.ediv_lt_of_lt_mul hB q1
 exact ⟨(A * n / B).toNat, e, e.symm ▸ Int.ediv_mul_le _ (Int.ne_of_gt hB), e.symm ▸ Int.lt_ediv_add_one_mul_self _ hB, Int.ofNat_lt.mp (e.symm ▸ l)⟩
structure NeP (a b c : Str) : Prop where
 na : a ≠ sEnd
 nb : b ≠ sEnd
 nc : c ≠ sEnd
 ab : a ≠ b
 ac : a ≠ c
 bc : b ≠ c
 p : ∀ x, x = sP ∨ x = sPP → x ≠ sEnd ∧ x ≠ a ∧ x ≠ b ∧ x ≠ c
theorem ne_num {x y : Str} (h : numOf x < numOf y) : x ≠ y := fun e => Int.ne_of_lt h (congrArg numOf e)
theorem num_four {x : Str} (h : x = sP ∨ x = sPP) : numOf x = 256 := by rcases h with rfl | rfl; exact num_p; exact num_pp
section
variable {a b c : Str} (T : Trio a b c)
include T
theorem Trio.ne : NeP a b c := by
 have h1 := told_num_range T.ta
 have h2 := told_num_range T.tb
 have h3 := told_num_range T.tc
 have z : ∀ {x}, 208 ≤ numOf x → x ≠ sEnd := fun h => (ne_num (by rw [num_end]; exact Int.lt_of_lt_of_le (by decide) h)).symm
 refine ⟨z h1.1, z h2.1, z h3.1, ne_num T.ab, ne_num (Int.lt_trans T.ab T.bc), ne_num T.bc, fun x hx => ?_⟩
 have n := num_four hx
 exact ⟨z (by rw [n]; decide), (ne_num (n ▸ h1.2)).symm, (ne_num (n ▸ h2.2)).symm, (ne_num (n ▸ h3.2)).symm⟩
omit T in
theorem rk_0 : rkO a b c sEnd = 0 := if_pos rfl
theorem rk_1 : rkO a b c a = 1 := (if_neg T.ne.na).trans (if_pos rfl)
theorem rk_2 : rkO a b c b = 2 := (if_neg T.ne.nb).trans ((if_neg T.ne.ab.symm).trans (if_pos rfl))
theorem rk_3 : rkO a b c c = 3 := (if_neg T.ne.nc).trans ((if_neg T.ne.ac.symm).trans ((if_neg T.ne.bc.symm).trans (if_pos rfl)))
theorem rk_p {x : Str} (h : x = sP ∨ x = sPP) : rkO a b c x = 4 := by
 have n := T.ne.p x h
 exact (if_neg n.1).trans ((if_neg n.2.1).trans ((if_neg n.2.2.1).trans (if_neg n.2.2.2)))
theorem rk_num {x : Str} (h : InO a b c x) : numOf x = nnO a b c (rkO a b c x) ∧ rkO a b c x < 5 := by
 rcases h with rfl | rfl | rfl | rfl | h
 ·rw [rk_0]; exact ⟨num_end, by decide⟩
 ·rw [rk_1 T]; exact ⟨rfl, by decide⟩
 ·rw [rk_2 T]; exact ⟨rfl, by decide⟩
 ·rw [rk_3 T]; exact ⟨rfl, by decide⟩
 ·rw [rk_p T h]; exact ⟨num_four h, by decide⟩
theorem nn_step {r : Nat} (h : r < 4) : nnO a b c r < nnO a b c (r + 1) := by
 rcases below4 h with rfl | rfl | rfl | rfl
 ·exact show (0 : Int) < numOf a from Int.lt_of_lt_of_le (by decide) (told_num_range T.ta).1
 ·exact T.ab
 ·exact T.bc
 ·exact (told_num_range T.tc).2
theorem nn_lt {r s : Nat} (h : r < s) (hs : s < 5) : nnO a b c r < nnO a b c s := by
 induction h with
 | refl => exact nn_step T (Nat.lt_of_succ_lt_succ hs)
 | step q_ ih => exact Int.lt_trans (ih (Nat.lt_of_succ_lt hs)) (nn_step T (Nat.lt_of_succ_lt_succ hs))
theorem nn_mono {r s : Nat} (hr : r < 5) (hs : s < 5) : nnO a b c r < nnO a b c s ↔ r < s := by
 refine ⟨fun h => ?_, fun h => nn_lt T h hs⟩
 rcases Nat.lt_trichotomy r s with q | rfl | q
 ·exact q
 ·exact absurd h (Int.lt_irrefl _)
 ·exact absurd (nn_lt T q hr) (Int.not_lt.mpr (Int.le_of_lt h))
theorem rk_lt {x y : Str} (hx : InO a b c x) (hy : InO a b c y) : numOf x < numOf y ↔ rkO a b c x < rkO a b c y := by
 obtain ⟨h1, h2⟩ := rk_num T hx
 obtain ⟨h3, h4⟩ := rk_num T hy
 rw [h1, h3]; exact nn_mono T h2 h4
theorem rk_le {x y : Str} (hx : InO a b c x) (hy : InO a b c y) : numOf x ≤ numOf y ↔ rkO a b c x ≤ rkO a b c y := by
 have := rk_lt T hy hx; lia
theorem InO.good {x : Str} (h : InO a b c x) : Good x := by
 rcases h with h | rfl | rfl | rfl | h | h
 ·exact .inl h
 ·exact .inr (.inl T.ta)
 ·exact .inr (.inl T.tb)
 ·exact .inr (.inl T.tc)
 ·exact .inr (.inr (.inl h))
 ·exact .inr (.inr (.inr h))
theorem rk_zero {x : Str} : rkO a b c x = 0 ↔ x = sEnd := by
 unfold rkO
 constructor
 ·intro h
  split at h
  ·assumption
  ·split at h
   ·lia
   ·split at h
    ·lia
    ·split at h <;> lia
 ·intro h; rw [if_pos h]
theorem told_same {x : Str} (h : x ∈ toldL) : Txt.upper x = x ∧ Txt.lower x = x ∧ Txt.swapcase x = x := by
 have := List.all_eq_true.mp told_plain x h
 simp only [Bool.and_eq_true, beq_iff_eq] at this
 exact ⟨this.1.1.2, this.1.2, this.2⟩
theorem InO.low {x : Str} (h : InO a b c x) : (InO a b c (Txt.lower x) ∧ rkO a b c (Txt.lower x) = rkO a b c x) ∧ (InO a b c (Txt.upper x) ∧ rkO a b c (Txt.upper x) = rkO a b c x) ∧ (∀ k, spelt k (Txt.lower x) = spelt k x) := by
 obtain ⟨c1, c2, c3, c4, c5, c6, c7, c8, c9⟩ := cases_p
 have told : ∀ y, y ∈ toldL → InO a b c y → (InO a b c (Txt.lower y) ∧ rkO a b c (Txt.lower y) = rkO a b c y) ∧ (InO a b c (Txt.upper y) ∧ rkO a b c (Txt.upper y) = rkO a b c y) ∧ (∀ k, spelt k (Txt.lower y) = spelt k y) := fun y hy h => by
  obtain ⟨e1, e2, _⟩ := told_same T hy
  rw [e1, e2]; exact ⟨⟨h, rfl⟩, ⟨h, rfl⟩, fun q_ => rfl⟩
 rcases h with rfl | rfl | rfl | rfl | rfl | rfl
 ·rw [c7, c8]; exact ⟨⟨.inl rfl, rfl⟩, ⟨.inl rfl, rfl⟩, fun q_ => rfl⟩
 ·exact told _ T.ta (.inr (.inl rfl))
 ·exact told _ T.tb (.inr (.inr (.inl rfl)))
 ·exact told _ T.tc (.inr (.inr (.inr (.inl rfl))))
 ·rw [c1, c3]
  exact ⟨⟨.inr (.inr (.inr (.inr (.inl rfl)))), rfl⟩, ⟨.inr (.inr (.inr (.inr (.inr rfl)))), by rw [rk_p T (.inl rfl), rk_p T (.inr rfl)]⟩, fun q_ => rfl⟩
 ·rw [c2, c4]
  refine ⟨⟨.inr (.inr (.inr (.inr (.inl rfl)))), by rw [rk_p T (.inl rfl), rk_p T (.inr rfl)]⟩, ⟨.inr (.inr (.inr (.inr (.inr rfl)))), rfl⟩, fun k => ?_⟩
  unfold spelt
  rw [c1, c2, c3, c4]
theorem InO.spelt {x : Str} (h : InO a b c x) (k : Nat) : InO a b c (Mine.spelt k x) ∧ rkO a b c (Mine.spelt k x) = rkO a b c x := by
 unfold Mine.spelt
 split
 ·exact (h.low T).2.1
 ·exact (h.low T).1
omit T in
theorem rk_of {order : List Str} {x : Str} {r : Nat} (nd : order.Nodup) (h : order[r]? = some x) : RkOk order x r :=
 ⟨h, fun i hi z => Nat.ne_of_lt hi ((List.getElem?_inj (List.getElem?_eq_some_iff.mp z).1 nd).mp (z.trans h.symm))⟩
theorem ord_nodup : ([sEnd] ++ [a, b, c] ++ [sP]).Nodup := by
 have n := T.ne
 have p := n.p sP (.inl rfl)
 show [sEnd, a, b, c, sP].Nodup
 simp only [List.nodup_cons, List.mem_cons, List.not_mem_nil, or_false, not_or, List.nodup_nil, not_false_eq_true, and_true]
 exact ⟨⟨n.na.symm, n.nb.symm, n.nc.symm, p.1.symm⟩, ⟨n.ab, n.ac, p.2.1.symm⟩, ⟨n.bc, p.2.2.1.symm⟩, p.2.2.2.symm⟩
theorem low_order {x : Str} (h : InO a b c x) : RkOk ([sEnd] ++ [a, b, c] ++ [sP]) (Txt.lower x) (rkO a b c x) := by
 obtain ⟨c1, c2, c3, c4, c5, c6, c7, c8, c9⟩ := cases_p
 refine rk_of (ord_nodup T) ?_
 rcases h with rfl | rfl | rfl | rfl | h
 ·rw [c8, rk_0]; rfl
 ·rw [(told_same T T.ta).2.1, rk_1 T]; rfl
 ·rw [(told_same T T.tb).2.1, rk_2 T]; rfl
 ·rw [(told_same T T.tc).2.1, rk_3 T]; rfl
 ·rw [show Txt.lower x = sP by rcases h with rfl | rfl; exact c3; exact c4, rk_p T h]; rfl
structure RowIs (rs : List Int) (row : List Str) : Prop where
 sorted : SortedN row
 inO : ∀ y ∈ row, InO a b c y
 cnt : ∀ r : Nat, r < 5 → row.countP (fun y => rkO a b c y == r) = 1 + rs.count (r : Int)
 len : row.length = 5 + rs.length
omit T in
theorem countP_lt {f : Str → Nat} {l : List Str} : ∀ r : Nat, (l.countP fun y => decide (f y < r + 1)) = (l.countP fun y => decide (f y < r)) + l.countP fun y => f y == r := fun r => by
 induction l with
 | nil => rfl
 | cons x l ih =>
  simp only [List.countP_cons, ih]
  by_cases q : f x < r
  ·have : f x < r + 1 := by exact Nat.lt_succ_of_lt (by assumption)
   have : ¬ f x = r := by exact Nat.ne_of_lt (by assumption)
   simp [*]; lia
  ·by_cases q2 : f x = r
   ·have : f x < r + 1 := by lia
    simp [*]; exact Nat.add_assoc _ _ _
   ·have : ¬ f x < r + 1 := by lia
    simp [*]
theorem RowIs.cum {rs : List Int} {row : List Str} (h : RowIs (a := a) (b := b) (c := c) rs row) (r : Nat) (hr : r ≤ 5) : ((row.countP fun y => decide (rkO a b c y < r) : Nat) : Int) = cumI rs r := by
 induction r with
 | zero => simp [cumI]
 | succ r ih =>
  rw [countP_lt (f := rkO a b c), cum_succ, ← ih (Nat.le_of_lt hr), h.cnt r hr]
  rfl
theorem RowIs.lt {rs : List Int} {row : List Str} (h : RowIs (a := a) (b := b) (c := c) rs row) {x : Str} (hx : InO a b c x) : (cntLt row (numOf x) : Int) = cumI rs (rkO a b c x) := by
 rw [← h.cum T _ (by have := (rk_num T hx).2; exact Nat.le_of_lt (by assumption))]
 unfold cntLt
 congr 1
 exact List.countP_congr fun y hy => by rw [decide_eq_true_iff, decide_eq_true_iff]; exact rk_lt T (h.inO y hy) hx
theorem RowIs.le {rs : List Int} {row : List Str} (h : RowIs (a := a) (b := b) (c := c) rs row) {x : Str} (hx : InO a b c x) : (cntLe row (numOf x) : Int) = cumI rs (rkO a b c x + 1) := by
 rw [← h.cum T _ (by have := (rk_num T hx).2; assumption)]
 unfold cntLe
 congr 1
 exact List.countP_congr fun y hy => by rw [decide_eq_true_iff, decide_eq_true_iff, rk_le T (h.inO y hy) hx]; lia
theorem RowIs.ins {rs : List Int} {row : List Str} (h : RowIs (a := a) (b := b) (c := c) rs row) {x : Str} (hx : InO a b c x) : RowIs (a := a) (b := b) (c := c) (rs ++ [(rkO a b c x : Int)]) (Mine.ins row x) := by
 refine ⟨ins_sorted h.sorted x, fun y hy => ?_, fun r hr => ?_, by rw [ins_len, h.len]; simp; exact Nat.add_assoc _ _ _⟩
 ·rcases mem_ins.mp hy with rfl | hy
  ·exact hx
  ·exact h.inO y hy
 ·rw [ins_count, h.cnt r hr, List.count_append, List.count_singleton]
  by_cases q : rkO a b c x = r
  ·simp [q]; exact Nat.add_assoc _ _ _
  ·have : ¬ ((rkO a b c x : Int) = (r : Int)) := by lia
   simp [q, this]
noncomputable def itemsO (a b c : Str) (k : Nat) (us : List Str) : List (Str × Str) := ((us.zipIdx k).filter fun q => rkO a b c q.1 != 0).map fun q => (spelt q.2 q.1, ((toString (q.2 : Int) : String) : Str))
noncomputable def rkI (a b c x : Str) : Int := (rkO a b c x : Int)
structure HearS (a b c : Str) (e : Int) (rs : List Int) (row : List Str) (name : Str) : Prop where
 get : row.getD (arcA e rs * (row.length : Int) / arcB rs).toNat sEnd = name
 inO : InO a b c name
 isin : In e (rs ++ [(rkO a b c name : Int)])
 r5 : Rk5 (rs ++ [(rkO a b c name : Int)])
 eA : arcA e rs * (row.length : Int) - (cntLt row (numOf name) : Int) * arcB rs = arcA e (rs ++ [(rkO a b c name : Int)])
 eB : arcB rs * ((cntLe row (numOf name) : Int) - cntLt row (numOf name)) = arcB (rs ++ [(rkO a b c name : Int)])
structure HearR (a b c : Str) (e : Int) (k : Nat) (row : List Str) (rs : List Int) (read : List Str) (tab : List (Str × Str)) (us : List Str) (x : List Str × List (Str × Str) × List Str) : Prop where
 eq : x = (read ++ us, tab ++ itemsO a b c k us, ((itemsO a b c k us).map (·.1)).foldl ins row)
 inO : ∀ x ∈ us, InO a b c x
 r5 : Rk5 (rs ++ us.map (rkI a b c))
 whole : Whole (rs ++ us.map (rkI a b c))
 isin : In e (rs ++ us.map (rkI a b c))
theorem hear_step {e : Int} {rs : List Int} {row : List Str} (hl4 : rs.length ≤ 4) (h5 : Rk5 rs) (hr : RowIs (a := a) (b := b) (c := c) rs row) (hi : In e rs) : ∃ name, HearS a b c e rs row name := by
 have hB := arcB_pos (rs := rs) (by lia)
 have hlen : (row.length : Int) = 5 + (rs.length : Int) := by rw [hr.len]; rfl
 obtain ⟨i, hidx, d1, d2, hil⟩ := place_ok (n := row.length) hi.1 hi.2 (Int.natCast_pos.mp (hlen.symm ▸ Int.add_pos_of_pos_of_nonneg (by decide) (Int.natCast_nonneg _)))
 obtain ⟨name, hn⟩ : ∃ name, row[i]? = some name := ⟨_, List.getElem?_eq_getElem hil⟩
 have hO := hr.inO name (List.mem_of_getElem? hn)
 have hrk := (rk_num T hO).2
 have l1 := (lt_iff hr.sorted hn (n := numOf name))
 have l2 := (le_iff hr.sorted hn (n := numOf name)).mp (Int.le_refl _)
 have l1' : cntLt row (numOf name) ≤ i := by
  rcases Nat.lt_or_ge i (cntLt row (numOf name)) with z | z
  ·exact absurd (l1.mpr z) (by lia)
  ·exact z
 have c1 := hr.lt T hO
 have c2 := hr.le T hO
 have hstep : In e (rs ++ [(rkO a b c name : Int)]) := by
  refine (in_snoc hl4 hrk).mpr ⟨?_, ?_⟩
  ·rw [← c1, ← hlen]
   exact Int.le_trans (Int.mul_le_mul_of_nonneg_right (by exact Int.ofNat_le.mpr (by assumption)) (by lia)) d1
  ·rw [← c2, ← hlen]
   exact Int.lt_of_lt_of_le d2 (Int.mul_le_mul_of_nonneg_right (by exact Int.ofNat_lt.mpr (by assumption)) (by lia))
 have hgd : row.getD (arcA e rs * (row.length : Int) / arcB rs).toNat sEnd = name := by
  rw [← hidx, Int.toNat_natCast, List.getD_eq_getElem?_getD, hn]; rfl
 have h5' : Rk5 (rs ++ [(rkO a b c name : Int)]) := fun x hx => by
  rcases List.mem_append.mp hx with hx | hx
  ·exact h5 x hx
  ·rw [List.mem_singleton.mp hx]; lia
 exact ⟨name, hgd, hO, hstep, h5', by rw [arcA_snoc hl4 hrk, c1, hlen], by rw [arcB_snoc hl4 hrk, c1, c2, cum_succ]; congr 1; lia⟩
omit T in
theorem nz_snoc {rs : List Int} {r : Nat} (h0 : ∀ x ∈ rs, x ≠ 0) (hr : r ≠ 0) : ∀ x ∈ rs ++ [(r : Int)], x ≠ 0 := fun x hx => by
 rcases List.mem_append.mp hx with hx | hx
 ·exact h0 x hx
 ·rw [List.mem_singleton.mp hx]; lia
omit T in
theorem whole_nz {rs : List Int} (h0 : ∀ x ∈ rs, x ≠ 0) (hl : rs.length = 5) : Whole rs := by
 refine ⟨Nat.le_of_eq hl, fun j hj => ?_, .inr hl⟩
 rw [List.getD_eq_getElem?_getD, List.getElem?_eq_getElem (Nat.lt_of_succ_lt hj)]
 exact h0 _ (List.getElem_mem _)
omit T in
theorem whole_end {rs : List Int} (h0 : ∀ x ∈ rs, x ≠ 0) (hl : rs.length ≤ 4) : Whole (rs ++ [0]) := by
 refine ⟨by rw [List.length_append]; exact Nat.succ_le_succ hl, fun j hj => ?_, .inl (by simp)⟩
 have hj : j < rs.length := by rw [List.length_append] at hj; exact Nat.lt_of_succ_lt_succ hj
 rw [getD_left hj, List.getD_eq_getElem?_getD, List.getElem?_eq_getElem hj]
 exact h0 _ (List.getElem_mem _)
theorem hear_ok {e : Int} (fuel k : Nat) (row : List Str) (rs : List Int) (read : List Str) (tab : List (Str × Str)) (hk : fuel + k = 5) (hl : rs.length = k) (h5 : Rk5 rs) (h0 : ∀ x ∈ rs, x ≠ 0) (hr : RowIs (a := a) (b := b) (c := c) rs row) (hi : In e rs) :
  ∃ us, HearR a b c e k row rs read tab us (hear fuel k row (arcA e rs) (arcB rs) read tab) := by
 induction fuel generalizing k row rs read tab with
 | zero => exact ⟨[], by simp [hear, itemsO], (fun x m => nomatch m), by simpa using h5, by rw [List.map_nil, List.append_nil]; exact whole_nz h0 (by omega), by simpa using hi⟩
 | succ fuel ih =>
  have hl4 : rs.length ≤ 4 := by omega
  obtain ⟨name, S⟩ := hear_step T hl4 h5 hr hi
  by_cases hend : name = sEnd
  ·have hz : rkO a b c name = 0 := (rk_zero T).mpr hend
   refine ⟨[name], ?_, fun x hx => by rw [List.mem_singleton.mp hx]; exact S.inO, S.r5, ?_, S.isin⟩
   ·unfold hear
    rw [S.get]
    dsimp only
    rw [if_pos hend]
    simp [itemsO, hz]
   ·rw [List.map_singleton, rkI, hz]; exact whole_end h0 hl4
  ·have hz : rkO a b c name ≠ 0 := fun z => hend ((rk_zero T).mp z)
   have sp := S.inO.spelt T k
   obtain ⟨us, H⟩ := ih (k + 1) (Mine.ins row (spelt k name)) (rs ++ [(rkO a b c name : Int)]) (read ++ [name]) (tab ++ [(spelt k name, ((toString (k : Int) : String) : Str))]) (by omega) (by rw [List.length_append, hl]; rfl) S.r5
    (nz_snoc h0 hz) (sp.2 ▸ hr.ins T sp.1) S.isin
   have em : rs ++ (name :: us).map (rkI a b c) = rs ++ [(rkO a b c name : Int)] ++ us.map (rkI a b c) := by simp [rkI]
   refine ⟨name :: us, ?_, fun x hx => ?_, em ▸ H.r5, em ▸ H.whole, em ▸ H.isin⟩
   ·unfold hear
    rw [S.get]
    dsimp only
    rw [if_neg hend, S.eA, S.eB, H.eq]
    simp [itemsO, hz, List.zipIdx_cons]
   ·rcases List.mem_cons.mp hx with rfl | hx
    ·exact S.inO
    ·exact H.inO x hx
end
end
section
theorem fold_count (p : Str → Bool) (xs row : List Str) : (xs.foldl ins row).countP p = row.countP p + xs.countP p := by
 induction xs generalizing row with
 | nil => rfl
 | cons x xs ih => rw [List.foldl_cons, ih, ins_count, List.countP_cons, Nat.add_assoc, Nat.add_comm (xs.countP p)]
theorem fold_mem {xs row : List Str} {y : Str} : y ∈ xs.foldl ins row ↔ y ∈ xs ∨ y ∈ row := by
 induction xs generalizing row with
 | nil => exact ⟨.inr, fun h => h.resolve_left fun z => nomatch z⟩
 | cons x xs ih => rw [List.foldl_cons, ih, mem_ins, List.mem_cons, ← or_assoc, or_comm (a := y ∈ xs)]
theorem fold_sorted {xs row : List Str} (h : SortedN row) : SortedN (xs.foldl ins row) := by
 induction xs generalizing row with
 | nil => exact h
 | cons x xs ih => exact ih (ins_sorted h x)
theorem fold_len {xs row : List Str} : (xs.foldl ins row).length = row.length + xs.length := by
 induction xs generalizing row with
 | nil => rfl
 | cons x xs ih => rw [List.foldl_cons, ih, ins_len, List.length_cons, Nat.add_assoc, Nat.add_comm 1]
theorem fold_line (xs : List Str) (n : Nat) (h : n ≤ xs.length) : (xs.take n).foldl ins [] = (lineN (fun i => numOf (xs.getD i sEnd)) n).map fun i => xs.getD i sEnd := by
 induction n with
 | zero => rfl
 | succ n ih =>
  have hx : xs[n]? = some (xs.getD n sEnd) := by rw [List.getD_eq_getElem?_getD, List.getElem?_eq_getElem h]; rfl
  rw [List.take_add_one, hx, Option.toList_some, List.foldl_append, ih (Nat.le_of_lt h)]
  show ins _ (xs.getD n sEnd) = (insS (fun i => numOf (xs.getD i sEnd)) (lineN (fun i => numOf (xs.getD i sEnd)) n) n).map _
  unfold insS ins cntLe
  rw [List.countP_map, List.map_append, List.map_cons, List.map_take, List.map_drop]
  rfl
theorem told_nodup : toldL.Nodup := by decide +kernel
noncomputable def tiO (s : Str) : Nat := toldL.findIdx (· == s)
theorem ti_ok {s : Str} (h : s ∈ toldL) : RkOk toldL s (tiO s) := by
 have hl : tiO s < toldL.length := List.findIdx_lt_length_of_exists ⟨s, h, by simp⟩
 have e : toldL[tiO s] = s := by
  have := List.findIdx_getElem (p := (· == s)) (xs := toldL) (w := hl)
  exact eq_of_beq this
 refine ⟨by rw [List.getElem?_eq_getElem hl, e], fun i hi z => ?_⟩
 have := List.not_of_lt_findIdx (p := (· == s)) (xs := toldL) hi
 obtain ⟨h1, h2⟩ := List.getElem?_eq_some_iff.mp z
 rw [h2] at this
 simp at this
theorem join_cons (x : Str) {l : List Str} (h : l ≠ []) : Str.join sSp (x :: l) = x ++ sSp ++ Str.join sSp l := by
 cases l with
 | nil => exact absurd rfl h
 | cons y l => rfl
theorem join_append (p q : List Str) (hp : p ≠ []) (h : q ≠ []) : Str.join sSp (p ++ q) = Str.join sSp p ++ sSp ++ Str.join sSp q := by
 induction p with
 | nil => exact absurd rfl hp
 | cons x p ih =>
  cases p with
  | nil => exact join_cons x h
  | cons y p =>
   have ih := ih (List.cons_ne_nil _ _)
   rw [join_cons x (List.cons_ne_nil _ _), List.cons_append, join_cons x (by rw [List.cons_append]; exact List.cons_ne_nil _ _), ih]
   simp only [PySem.Str.append_assoc]
theorem join_flat {f : Str → List Str} (l : List Str) (h : ∀ x ∈ l, f x ≠ []) : Str.join sSp (l.map fun x => Str.join sSp (f x)) = Str.join sSp (l.flatMap f) := by
 induction l with
 | nil => rfl
 | cons x l ih =>
  have ih := ih fun z m => h z (.tail _ m)
  rw [List.map_cons, List.flatMap_cons]
  cases l with
  | nil => rw [List.flatMap_nil, List.append_nil]; rfl
  | cons y l =>
   have ne : (y :: l).flatMap f ≠ [] := fun z => h y (.tail _ (.head _)) (List.append_eq_nil_iff.mp (List.flatMap_cons ▸ z)).1
   rw [join_append (f x) _ (h x (.head _)) ne, join_cons _ (by rw [List.map_cons]; exact List.cons_ne_nil _ _), ih]
section
variable {a b c : Str} (T : Trio a b c)
include T
noncomputable def WO (a b c phrase x : Str) : Str := if rkO a b c x = 4 then phrase else Txt.lower x
noncomputable def partsO (a b c f g x : Str) : List Str := if rkO a b c x = 4 then [f, g] else [Txt.lower x]
theorem rk4 {x : Str} (h : InO a b c x) : rkO a b c x = 4 ↔ (x = sP ∨ x = sPP) := by
 refine ⟨fun q => ?_, fun h => rk_p T h⟩
 rcases h with rfl | rfl | rfl | rfl | h
 ·rw [rk_0] at q; cases q
 ·rw [rk_1 T] at q; cases q
 ·rw [rk_2 T] at q; cases q
 ·rw [rk_3 T] at q; cases q
 ·exact h
theorem told_of {x : Str} (h : InO a b c x) (h0 : x ≠ sEnd) (h4 : rkO a b c x ≠ 4) : x ∈ toldL := by
 rcases h with rfl | rfl | rfl | rfl | h
 ·exact absurd rfl h0
 ·exact T.ta
 ·exact T.tb
 ·exact T.tc
 ·exact absurd ((rk4 T (.inr (.inr (.inr (.inr h))))).mpr h) h4
theorem ball_val {x phrase : Str} (h : InO a b c x) : ballVal phrase x = (x, if Txt.lower x = sP then phrase else sEnd) := by
 obtain ⟨c1, c2, c3, c4, c5, c6, c7, c8, c9⟩ := cases_p
 unfold ballVal
 have e : (kindOf x = Str.ofString "phrase") ↔ Txt.lower x = sP := by
  by_cases q : x = sP ∨ x = sPP
  ·have hl : Txt.lower x = sP := by rcases q with rfl | rfl; exact c3; exact c4
   have hn : numOf x = 256 := by rcases q with rfl | rfl; exact num_p; exact num_pp
   have hne : x ≠ sEnd := (T.ne.p x q).1
   refine ⟨fun q_ => hl, fun q_ => ?_⟩
   unfold kindOf
   rw [if_neg hne, hn, if_neg (by decide)]
  ·by_cases h0 : x = sEnd
   ·subst h0
    rw [c8]
    exact ⟨fun z => absurd z (by decide +kernel), fun z => absurd z (by decide +kernel)⟩
   ·have ht := told_of T h h0 (fun z => q ((rk4 T h).mp z))
    have hr := told_num_range ht
    have hl := (told_same T ht).2.1
    refine ⟨fun z => ?_, fun z => ?_⟩
    ·unfold kindOf at z
     rw [if_neg h0, if_pos hr.2] at z
     exact absurd z (by decide +kernel)
    ·exact absurd (.inl (hl.symm.trans z)) q
 by_cases q : Txt.lower x = sP
 ·rw [if_pos (e.mpr q), if_pos q]
 ·rw [if_neg (fun z => q (e.mp z)), if_neg q]
end
structure Deck (a b c : Str) (names : List Str) (phrase f g : Str) : Prop where
 trio : Trio a b c
 perm : ∃ pp, (pp = sP ∨ pp = sPP) ∧ names.Perm [sEnd, a, b, c, pp]
 mf : f ∈ [a, b, c]
 mg : g ∈ [a, b, c]
 ph : phrase = f ++ sSp ++ g
theorem Deck.inO {a b c : Str} {names : List Str} {phrase f g : Str} (D : Deck a b c names phrase f g) : ∀ x ∈ names, InO a b c x := fun x hx => by
 obtain ⟨pp, hp, P⟩ := D.perm
 have := P.mem_iff.mp hx
 simp only [List.mem_cons, List.not_mem_nil, or_false] at this
 rcases this with h | h | h | h | h
 ·exact .inl h
 ·exact .inr (.inl h)
 ·exact .inr (.inr (.inl h))
 ·exact .inr (.inr (.inr (.inl h)))
 ·subst h; exact .inr (.inr (.inr (.inr hp)))
theorem Deck.row {a b c : Str} {names : List Str} {phrase f g : Str} (D : Deck a b c names phrase f g) : RowIs (a := a) (b := b) (c := c) [] (names.foldl ins []) := by
 obtain ⟨pp, hp, P⟩ := D.perm
 refine ⟨fold_sorted List.Pairwise.nil, fun y hy => ?_, fun r hr => ?_, by rw [fold_len, P.length_eq]; rfl⟩
 ·rcases fold_mem.mp hy with h | h
  ·exact D.inO y h
  ·cases h
 ·have e : [sEnd, a, b, c, pp].map (rkO a b c) = [0, 1, 2, 3, 4] := by
   show [rkO a b c sEnd, rkO a b c a, rkO a b c b, rkO a b c c, rkO a b c pp] = _
   rw [rk_0, rk_1 D.trio, rk_2 D.trio, rk_3 D.trio, rk_p D.trio hp]
  have k := List.countP_map (p := (· == r)) (f := rkO a b c) (l := [sEnd, a, b, c, pp])
  rw [e] at k
  rw [fold_count, P.countP_eq]
  exact (Nat.zero_add _).trans (k.symm.trans ((by decide : ∀ r, r < 5 → [0, 1, 2, 3, 4].count r = 1) r hr))
theorem hs_len {x : Str} (h : Good x) : x.length ≤ 3 := (good_plain h).2
theorem length_app (x y : Str) : (x ++ y).length = x.length + y.length := PySem.Str.length_append x y
structure Hd where
 us : List Str
 ps : List Str
 kk : Nat
 tab : List (Str × Str)
 row : List Str
structure HeardOk (P : Params) (a b c : Str) (names : List Str) (phrase : Str) (e : Int) (x : Hd) : Prop where
 hear : Mine.hear 5 0 (names.foldl ins []) e 16777216 [] (names.map (ballVal phrase)) = (x.us, x.tab, x.row)
 right : RightOk P x.us names ([sEnd] ++ [a, b, c] ++ [sP]) toldL phrase x.tab (rkO a b c) (WO a b c phrase) x.ps tiO x.kk x.row
 len : x.row.length ≤ 10
 r5 : Rk5 (x.us.map (rkI a b c))
 whole : Whole (x.us.map (rkI a b c))
 isin : In e (x.us.map (rkI a b c))
section
variable {a b c : Str} {names us : List Str} {phrase f g x : Str} {k : Nat}
noncomputable def nzO (a b c : Str) (us : List Str) : List Str := us.filter fun x => rkO a b c x != 0
noncomputable def psO (a b c f g : Str) (us : List Str) : List Str := (nzO a b c us).flatMap (partsO a b c f g)
noncomputable def tabU (a b c : Str) (names us : List Str) (phrase : Str) : List (Str × Str) := names.map (ballVal phrase) ++ itemsO a b c 0 us
theorem rk_four {r : Nat} (h : r < 5) (k : ¬ r < 4) : r = 4 := Nat.le_antisymm (Nat.le_of_lt_succ h) (Nat.not_lt.mp k)
theorem Deck.told (D : Deck a b c names phrase f g) : f ∈ toldL ∧ g ∈ toldL := by
 have T := D.trio
 have : ∀ x ∈ [a, b, c], x ∈ toldL := fun x hx => by
  rcases List.mem_cons.mp hx with rfl | hx
  ·exact T.ta
  ·rcases List.mem_cons.mp hx with rfl | hx
   ·exact T.tb
   ·rw [List.mem_singleton.mp hx]; exact T.tc
 exact ⟨this f D.mf, this g D.mg⟩
theorem Deck.ph_len (D : Deck a b c names phrase f g) : phrase.length ≤ 7 := by
 rw [D.ph, length_app, length_app]
 exact Nat.add_le_add (Nat.add_le_add (hs_len (.inr (.inl D.told.1))) (Nat.le_of_eq (by decide : sSp.length = 1))) (hs_len (.inr (.inl D.told.2)))
theorem Deck.len (D : Deck a b c names phrase f g) : names.length = 5 := by obtain ⟨pp, q_, Pm⟩ := D.perm; exact Pm.length_eq
theorem Deck.tabE (D : Deck a b c names phrase f g) (h2 : ∀ x ∈ us, InO a b c x) : tabU a b c names us phrase = tabOf names us phrase (rkO a b c) := by
 unfold tabU tabOf itemsO
 congr 1
 ·exact List.map_congr_left fun x hx => ball_val D.trio (D.inO x hx)
 ·refine List.map_congr_left fun q hq => ?_
  rw [((h2 q.1 (mem_of_zip ((List.mem_filter.mp hq).1))).low D.trio).2.2]
theorem Deck.tabO (D : Deck a b c names phrase f g) (h2 : ∀ x ∈ us, InO a b c x) : ∀ q ∈ tabU a b c names us phrase, InO a b c q.1 := fun q hq => by
 rcases List.mem_append.mp hq with hq | hq
 ·obtain ⟨x, hx, rfl⟩ := List.mem_map.mp hq
  rw [ball_val D.trio (D.inO x hx)]; exact D.inO x hx
 ·obtain ⟨z, hz, rfl⟩ := List.mem_map.mp hq
  exact ((h2 z.1 (mem_of_zip ((List.mem_filter.mp hz).1))).spelt D.trio z.2).1
theorem Deck.rowE (D : Deck a b c names phrase f g) : ((itemsO a b c 0 us).map (·.1)).foldl ins (names.foldl ins []) = ((tabU a b c names us phrase).map (·.1)).foldl ins [] := by
 have e : names.map ((fun (q : Str × Str) => q.1) ∘ ballVal phrase) = names.map id := List.map_congr_left fun x hx => congrArg (·.1) (ball_val D.trio (D.inO x hx))
 unfold tabU
 rw [List.map_append, List.foldl_append, List.map_map, e, List.map_id]
theorem items_len : (itemsO a b c k us).length ≤ us.length := by
 unfold itemsO
 rw [List.length_map]
 exact Nat.le_trans (List.length_filter_le _ _) (Nat.le_of_eq List.length_zipIdx)
theorem nz_mem (T : Trio a b c) (hx : x ∈ nzO a b c us) : x ∈ us ∧ x ≠ sEnd := by
 obtain ⟨m1, m2⟩ := List.mem_filter.mp hx
 exact ⟨m1, fun z => by rw [(rk_zero T).mpr z] at m2; cases m2⟩
theorem Deck.WE (D : Deck a b c names phrase f g) : WO a b c phrase x = Str.join sSp (partsO a b c f g x) := by
 unfold WO partsO
 by_cases h : rkO a b c x = 4
 ·rw [if_pos h, if_pos h, D.ph]; rfl
 ·rw [if_neg h, if_neg h]; rfl
theorem Deck.psT (D : Deck a b c names phrase f g) (h2 : ∀ x ∈ us, InO a b c x) : ∀ p ∈ psO a b c f g us, p ∈ toldL := fun p hp => by
 obtain ⟨x, hx, hp⟩ := List.mem_flatMap.mp hp
 obtain ⟨m1, m2⟩ := nz_mem D.trio hx
 unfold partsO at hp
 by_cases q : rkO a b c x = 4
 ·rw [if_pos q] at hp
  rcases List.mem_cons.mp hp with rfl | hp
  ·exact D.told.1
  ·rw [List.mem_singleton.mp hp]; exact D.told.2
 ·rw [if_neg q] at hp
  have ht := told_of D.trio (h2 x m1) m2 q
  rw [List.mem_singleton.mp hp, (told_same D.trio ht).2.1]; exact ht
theorem nz_len (hlu : us.length ≤ 5) : (nzO a b c us).length ≤ 5 := Nat.le_trans (List.length_filter_le _ _) hlu
theorem parts_len : (partsO a b c f g x).length ≤ 2 := by
 unfold partsO
 by_cases h : rkO a b c x = 4
 ·rw [if_pos h]; exact Nat.le_refl _
 ·rw [if_neg h]; exact Nat.le_succ 1
theorem ps_len (l : List Str) : (l.flatMap (partsO a b c f g)).length ≤ 2 * l.length := by
 induction l with
 | nil => exact Nat.le_refl _
 | cons x l ih => rw [List.flatMap_cons, List.length_append, List.length_cons, Nat.mul_succ, Nat.add_comm]; exact Nat.add_le_add ih parts_len
theorem parts_ne : partsO a b c f g x ≠ [] := by
 unfold partsO
 by_cases h : rkO a b c x = 4
 ·rw [if_pos h]; exact List.cons_ne_nil _ _
 ·rw [if_neg h]; exact List.cons_ne_nil _ _
theorem Deck.dueE (D : Deck a b c names phrase f g) : dueOf us (rkO a b c) (WO a b c phrase) = Txt.join sSp (psO a b c f g us) := by
 unfold dueOf Txt.join
 rw [PySem.StrLaws.glued_eq_join, PySem.StrLaws.glued_eq_join, psO, ← join_flat _ fun x q_ => parts_ne]
 exact congrArg (Str.join sSp) (List.map_congr_left fun x q_ => D.WE)
theorem Deck.Wl (D : Deck a b c names phrase f g) (h : InO a b c x) : (WO a b c phrase x).length ≤ 7 := by
 unfold WO
 by_cases q : rkO a b c x = 4
 ·rw [if_pos q]; exact D.ph_len
 ·rw [if_neg q]; exact Nat.le_trans (hs_len ((h.low D.trio).1.1.good D.trio)) (by decide)
theorem Deck.sumW (D : Deck a b c names phrase f g) {l : List Str} (hl : ∀ x ∈ l, InO a b c x) : ((l.map (WO a b c phrase)).map (·.length)).sum ≤ 7 * l.length := by
 induction l with
 | nil => exact Nat.le_refl _
 | cons x l ih => rw [List.map_cons, List.map_cons, List.sum_cons, List.length_cons, Nat.mul_succ, Nat.add_comm]; exact Nat.add_le_add (ih fun y m => hl y (.tail _ m)) (D.Wl (hl x (.head _)))
theorem Trio.noq (T : Trio a b c) (h : InO a b c x) : Txt.lower x ≠ Txt.lower sQ := by
 obtain ⟨h, q_⟩ := low_order T h
 have hm := List.mem_of_getElem? h
 intro z
 rw [z] at hm
 have hno : Txt.lower sQ ∉ toldL := by decide +kernel
 simp only [List.cons_append, List.nil_append, List.mem_cons, List.not_mem_nil, or_false] at hm
 rcases hm with hm | hm | hm | hm | hm
 ·exact absurd hm (by decide +kernel)
 ·exact hno (hm ▸ T.ta)
 ·exact hno (hm ▸ T.tb)
 ·exact hno (hm ▸ T.tc)
 ·exact absurd hm (by decide +kernel)
theorem Trio.ord (T : Trio a b c) : ∀ x ∈ [sEnd] ++ [a, b, c] ++ [sP], Good x ∧ Txt.lower (Txt.swapcase x) = x := fun x hx => by
 obtain ⟨c1, c2, c3, c4, c5, c6, c7, c8, c9⟩ := cases_p
 have told : ∀ y, y ∈ toldL → Good y ∧ Txt.lower (Txt.swapcase y) = y := fun y hy => by
  obtain ⟨q_, e2, e3⟩ := told_same T hy
  exact ⟨.inr (.inl hy), by rw [e3, e2]⟩
 simp only [List.cons_append, List.nil_append, List.mem_cons, List.not_mem_nil, or_false] at hx
 rcases hx with rfl | rfl | rfl | rfl | rfl
 ·exact ⟨.inl rfl, by rw [c9, c8]⟩
 ·exact told _ T.ta
 ·exact told _ T.tb
 ·exact told _ T.tc
 ·exact ⟨.inr (.inr (.inl rfl)), by rw [c5, c4]⟩
theorem Trio.op (T : Trio a b c) (h : InO a b c x) (h0 : x ≠ sEnd) (hk' : kindOf x = sOp) : WO a b c phrase x = x := by
 have hr : rkO a b c x ≠ 4 := fun z => by
  have hp := (rk4 T h).mp z
  have hn : numOf x = 256 := by rcases hp with rfl | rfl; exact num_p; exact num_pp
  unfold kindOf at hk'
  rw [if_neg h0, hn, if_neg (by decide)] at hk'
  exact absurd hk' (by decide +kernel)
 unfold WO
 rw [if_neg hr]
 exact (told_same T (told_of T h h0 hr)).2.1
theorem Deck.get (D : Deck a b c names phrase f g) (h : InO a b c x) (h0 : x ≠ sEnd) (hk' : kindOf x ≠ sOp) : ∃ q, (names.map (fun x => (x, if Txt.lower x = sP then phrase else sEnd))).find? (fun q => decide (Txt.lower q.1 = Txt.lower (Txt.swapcase x))) = some q ∧ q.2 = WO a b c phrase x := by
 obtain ⟨c1, c2, c3, c4, c5, c6, c7, c8, c9⟩ := cases_p
 have hr : rkO a b c x = 4 := by
  rcases Nat.decEq (rkO a b c x) 4 with q | q
  ·have hn := told_num_range (told_of D.trio h h0 q)
   unfold kindOf at hk'
   rw [if_neg h0, if_pos hn.2] at hk'
   exact absurd rfl hk'
  ·exact q
 have hs : Txt.lower (Txt.swapcase x) = sP := by
  rcases (rk4 D.trio h).mp hr with rfl | rfl
  ·rw [c5, c4]
  ·rw [c6, c3]
 obtain ⟨pp, hpp, Pm⟩ := D.perm
 have hm : pp ∈ names := Pm.mem_iff.mpr (.tail _ (.tail _ (.tail _ (.tail _ (.head _)))))
 have hlp : Txt.lower pp = sP := by rcases hpp with rfl | rfl; exact c3; exact c4
 rw [hs]
 obtain ⟨q, hq⟩ := Option.isSome_iff_exists.mp (List.find?_isSome.mpr ⟨_, List.mem_map_of_mem (f := fun x => (x, if Txt.lower x = sP then phrase else sEnd)) hm, decide_eq_true hlp⟩ : (List.find? (fun q : Str × Str => decide (Txt.lower q.1 = sP)) _).isSome = true)
 refine ⟨q, hq, ?_⟩
 obtain ⟨y, hy, e⟩ := List.mem_map.mp (List.mem_of_find?_eq_some hq)
 have h6 := List.find?_some hq
 rw [decide_eq_true_iff] at h6
 rw [← e] at h6 ⊢
 show (if Txt.lower y = sP then phrase else sEnd) = _
 rw [if_pos h6]
 unfold WO; rw [if_pos hr]
theorem Trio.row (T : Trio a b c) {tab : List (Str × Str)} (tabO : ∀ q ∈ tab, InO a b c q.1) {p : Array Nat} (Pp : Pre tab.length tab.length p) (A : Asc (fun i => (tab.map fun q => (rkO a b c q.1 : Int)).getD i 0) tab.length p) :
  (tab.map (·.1)).foldl ins [] = p.toList.map fun i => (tab.map (·.1)).getD i sEnd := by
 have g1 : ∀ i (h : i < tab.length), (tab.map (·.1)).getD i sEnd = (tab[i]'h).1 := fun i h => by rw [List.getD_eq_getElem?_getD, List.getElem?_map, List.getElem?_eq_getElem h]; rfl
 have g3 : ∀ i (h : i < tab.length), (tab.map fun q => (rkO a b c q.1 : Int)).getD i 0 = (rkO a b c (tab[i]'h).1 : Int) := fun i h => by rw [List.getD_eq_getElem?_getD, List.getElem?_map, List.getElem?_eq_getElem h]; rfl
 have key := fold_line (tab.map (·.1)) _ (Nat.le_refl _)
 rw [List.take_length] at key
 rw [key, List.length_map]
 refine congrArg (List.map _) (Eq.symm ?_)
 refine sort_line (s := fun i => numOf ((tab.map (·.1)).getD i sEnd)) (k := fun i => (tab.map fun q => (rkO a b c q.1 : Int)).getD i 0) (n := tab.length) (p := p) (fun i j hij hj => ?_) Pp A
 have hi := Nat.lt_trans hij hj
 show numOf ((tab.map (·.1)).getD j sEnd) < numOf ((tab.map (·.1)).getD i sEnd) ↔ (tab.map fun q => (rkO a b c q.1 : Int)).getD j 0 < (tab.map fun q => (rkO a b c q.1 : Int)).getD i 0
 rw [g1 i hi, g1 j hj, g3 i hi, g3 j hj, rk_lt T (tabO _ (List.getElem_mem hj)) (tabO _ (List.getElem_mem hi))]
 exact Int.ofNat_lt.symm
theorem Deck.jlen (D : Deck a b c names phrase f g) (h2 : ∀ x ∈ us, InO a b c x) (hlu : us.length ≤ 5) : (((nzO a b c us).map (WO a b c phrase)).map (·.length)).sum + ((nzO a b c us).map (WO a b c phrase)).length * sSp.length ≤ 100 := by
 have h := D.sumW (l := nzO a b c us) fun x hx => h2 x (nz_mem D.trio hx).1
 have h' := nz_len (a := a) (b := b) (c := c) hlu
 have e : sSp.length = 1 := by decide
 rw [e, List.length_map, Nat.mul_one]
 generalize (nzO a b c us).length = n at h h'
 clear hlu h2 D e
 exact Nat.le_trans (Nat.add_le_add (Nat.le_trans h (Nat.mul_le_mul_left 7 h')) h') (by decide)
theorem Deck.dlen (D : Deck a b c names phrase f g) (h2 : ∀ x ∈ us, InO a b c x) (hlu : us.length ≤ 5) : (dueOf us (rkO a b c) (WO a b c phrase)).length ≤ 100 := by
 have h := PySem.StrLaws.join_length_le sSp ((nzO a b c us).map (WO a b c phrase))
 unfold dueOf Txt.join
 rw [PySem.StrLaws.glued_eq_join]
 exact Nat.le_trans h (D.jlen h2 hlu)
theorem right_ok (D : Deck a b c names phrase f g) (P : Params) {e : Int} (he : 0 ≤ e ∧ e < 16777216) : ∃ x, HeardOk P a b c names phrase e x := by
 have T := D.trio
 have hA : arcA e [] = e := by unfold arcA wholeN startN; simp
 have hB : arcB [] = 16777216 := by decide
 obtain ⟨us, h1, h2, h3, h4, h5⟩ := hear_ok T (e := e) 5 0 (names.foldl ins []) [] [] (names.map (ballVal phrase)) rfl rfl (fun q_ h => by cases h) (fun q_ h => by cases h) D.row (by unfold In; rw [hA, hB]; exact he)
 rw [hA, hB] at h1
 rw [List.nil_append] at h3 h4 h5 h1
 have hlu : us.length ≤ 5 := by have := h4.1; rwa [List.length_map] at this
 have psT := D.psT h2
 obtain ⟨k, hk, hc⟩ := cuts_join (P := P) (ti := tiO) (ps := psO a b c f g us) fun p hp => (ti_ok (psT p hp)).1
 have hc := hc (Txt.join sSp (psO a b c f g us)) (by unfold Txt.join; rw [PySem.StrLaws.glued_eq_join])
 have hpl : (psO a b c f g us).length ≤ 2 * 5 := Nat.le_trans (ps_len _) (Nat.mul_le_mul_left 2 (nz_len hlu))
 have tabO := D.tabO h2
 refine ⟨{ us := us, ps := psO a b c f g us, kk := k, tab := _, row := _ }, h1, ?_, ?_, h3, h4, h5⟩
 ·rw [D.rowE]
  exact {
      tabOk := D.tabE h2, good := fun x hx => (h2 x hx).good T, goodN := fun x hx => (D.inO x hx).good T, goodT := fun q hq => (tabO q hq).good T, rkOk := fun x hx => low_order T (h2 x hx), rkT := fun q hq => low_order T (tabO q hq), noq := fun q hq => T.noq (tabO q hq),
      ord := T.ord, ne0 := fun x q_ => rk_zero T, op := fun x hx h0 hk' => T.op (h2 x hx) h0 hk', get := fun x hx h0 hk' => (by
       obtain ⟨q, e1, e2⟩ := D.get (h2 x hx) h0 hk'
       exact ⟨q, by rw [show List.map (ballVal phrase) names ++ itemsO a b c 0 us = _ from D.tabE h2, tabOf, List.find?_append, e1]; rfl, e2⟩),
      lt := fun x hx h0 h4' => (if_neg (Nat.ne_of_lt h4')).symm, ge := fun x hx h0 h4' => (if_pos (rk_four (rk_num T (h2 x hx)).2 h4')).symm, wlen := fun x hx => Nat.le_trans (D.Wl (h2 x hx)) (by decide), cuts := by rw [D.dueE]; exact hc,
      kle := by clear h1 h2 h3 h4 h5 hc psT tabO; show k ≤ _; omega, words := by rw [D.dueE]; exact words_join psT, tiOk := fun s hs => ti_ok (psT s hs), rowOk := fun p Pp A => T.row tabO Pp A, jlen := Nat.le_trans (D.jlen h2 hlu) (by decide), dlen := Nat.le_trans (D.dlen h2 hlu) (by decide),
      slen := (by rw [D.dueE, spaces_join psT]; exact Nat.le_trans hpl (by decide)), lr := Nat.le_trans hlu (by decide), ln := Nat.le_trans (Nat.le_of_eq D.len) (by decide), lo := Nat.le_of_ble_eq_true rfl, lt' := by decide }
 ·rw [D.rowE, fold_len, List.length_map, tabU, List.length_append, List.length_map, D.len]
  exact Nat.le_trans (Nat.add_le_add_left (Nat.add_le_add_left (Nat.le_trans items_len hlu) 5) 0) (by decide)
end
end
theorem fmodN (a : Int) (b : Int) (hb : 0 < b) : ∃ n : Nat, a.fmod b = (n : Int) ∧ (n : Int) < b ∧ (n : Int) = a % b := by
 have h1 := Int.emod_nonneg a (show b ≠ 0 by lia)
 have h2 := Int.emod_lt_of_pos a hb
 refine ⟨(a % b).toNat, ?_, by lia, by lia⟩
 rw [Int.fmod_eq_emod_of_nonneg _ (by exact Int.le_of_lt (by assumption))]; lia
theorem told_sorted : toldL.Pairwise fun x y => numOf x < numOf y := by
 rw [List.pairwise_iff_getElem]
 intro i j hi hj hij
 rw [told_num (List.getElem?_eq_getElem hi), told_num (List.getElem?_eq_getElem hj)]
 lia
theorem three_signs {i0 i1 i2 : Nat} {s0 s1 s2 : Str} (h0 : toldL[i0]? = some s0) (h1 : toldL[i1]? = some s1) (h2 : toldL[i2]? = some s2) (n1 : i0 ≠ i1) (n2 : i0 ≠ i2) (n3 : i1 ≠ i2) :
  ∃ a b c, toldL.filter (fun x => decide (x ∈ [s0, s1, s2])) = [a, b, c] ∧ Trio a b c ∧ [a, b, c].Perm [s0, s1, s2] := by
 have inj : ∀ {i j : Nat} {x : Str}, toldL[i]? = some x → toldL[j]? = some x → i = j := fun hi hj =>
  (List.getElem?_inj (List.getElem?_eq_some_iff.mp hi).1 told_nodup).mp (hi.trans hj.symm)
 have m0 := List.mem_of_getElem? h0
 have m1 := List.mem_of_getElem? h1
 have m2 := List.mem_of_getElem? h2
 have nd : [s0, s1, s2].Nodup := by
  simp only [List.nodup_cons, List.mem_cons, List.not_mem_nil, or_false, not_or, List.nodup_nil, and_true, not_false_eq_true]
  refine ⟨⟨?_, ?_⟩, ?_⟩
  ·rintro rfl; exact n1 (inj h0 h1)
  ·rintro rfl; exact n2 (inj h0 h2)
  ·rintro rfl; exact n3 (inj h1 h2)
 have hp : (toldL.filter fun x => decide (x ∈ [s0, s1, s2])).Perm [s0, s1, s2] := by
  refine (List.perm_ext_iff_of_nodup (told_nodup.sublist (List.filter_sublist)) nd).mpr fun x => ?_
  rw [List.mem_filter, decide_eq_true_iff]
  refine ⟨fun h => h.2, fun h => ⟨?_, h⟩⟩
  simp only [List.mem_cons, List.not_mem_nil, or_false] at h
  rcases h with rfl | rfl | rfl <;> assumption
 have hs : (toldL.filter fun x => decide (x ∈ [s0, s1, s2])).Pairwise fun x y => numOf x < numOf y := told_sorted.sublist List.filter_sublist
 have hm : ∀ x ∈ toldL.filter (fun x => decide (x ∈ [s0, s1, s2])), x ∈ toldL := fun x h => (List.mem_filter.mp h).1
 have hl := hp.length_eq
 generalize toldL.filter (fun x => decide (x ∈ [s0, s1, s2])) = F at *
 match F, hl with
 | [a, b, c], _ =>
  simp only [List.pairwise_cons, List.mem_cons, List.not_mem_nil, or_false] at hs
  exact ⟨a, b, c, rfl, ⟨hm a (by simp), hm b (by simp), hm c (by simp), hs.1 b (.inl rfl), hs.2.1 c rfl⟩, hp⟩
theorem rot_perm {L : List Str} (hL : L.length = 5) {r : Nat} (hr : r < 5) : (((L ++ L).drop r).take 5).Perm L := by
 rw [List.drop_append_of_le_length (by lia), List.take_append, List.length_drop, List.take_of_length_le (by simp; lia)]
 have e : 5 - (L.length - r) = r := by omega
 rw [e]
 have := List.perm_append_comm (l₁ := L.drop r) (l₂ := L.take r)
 rw [List.take_append_drop] at this
 exact this
theorem whole_pos {k : Nat} (h : k ≤ 5) : 1 ≤ wholeN k ∧ wholeN k ≤ 59049 := whole_small h
theorem ceil_fdiv (s w : Int) (hw : 0 < w) : s ≤ -((-s).fdiv w) * w ∧ -((-s).fdiv w) * w < s + w := by
 rw [Int.fdiv_eq_ediv_of_nonneg _ (by lia)]
 have h1 := Int.ediv_mul_le (-s) (show w ≠ 0 by lia)
 have h2 := Int.lt_ediv_add_one_mul_self (-s) hw
 rw [Int.add_mul] at h2
 rw [Int.neg_mul]
 omega
theorem In.bounds {e : Int} {w : List Int} (h5 : Rk5 w) (hl : w.length ≤ 5) (h : In e w) : 0 ≤ e ∧ e < 16777216 := by
 have := in_take (rs := []) (us := w) h5 hl h
 have hA : arcA e [] = e := by unfold arcA wholeN startN; simp
 have hB : arcB [] = 16777216 := by decide
 unfold In at this
 rw [hA, hB] at this
 exact this
theorem first_hue {w : List Int} (h5 : Rk5 w) (hl : w.length ≤ 5) : ∃ z, -((-(startN w w.length) * 16777216).fdiv (wholeN w.length)) = z ∧ In z w ∧ ∀ e, In e w → z ≤ e := by
 refine ⟨_, rfl, ?_⟩
 have hw := whole_pos hl
 have hB := arcB_pos (rs := w) hl
 have hc := ceil_fdiv (startN w w.length * 16777216) (wholeN w.length) (by exact (by assumption : _ ∧ _).1)
 rw [← Int.neg_mul] at hc
 generalize -((-(startN w w.length) * 16777216).fdiv (wholeN w.length)) = x at *
 refine ⟨⟨by unfold arcA; lia, by unfold arcA; lia⟩, fun e he => ?_⟩
 have he1 : 0 ≤ arcA e w := he.1
 unfold arcA at he1
 rcases Int.lt_or_le e x with q | q
 ·exfalso
  have : (e + 1) * wholeN w.length ≤ x * wholeN w.length := Int.mul_le_mul_of_nonneg_right (by assumption) (by lia)
  rw [Int.add_mul] at this
  lia
 ·exact q
theorem last_hue {w : List Int} (h5 : Rk5 w) (hl : w.length ≤ 5) : ∃ z, -((-(startN w w.length + share w) * 16777216).fdiv (wholeN w.length)) - 1 = z ∧ In z w ∧ ∀ e, In e w → e ≤ z := by
 refine ⟨_, rfl, ?_⟩
 have hw := whole_pos hl
 have hB := arcB_pos (rs := w) hl
 have hc := ceil_fdiv ((startN w w.length + share w) * 16777216) (wholeN w.length) (by lia)
 rw [← Int.neg_mul] at hc
 generalize -((-(startN w w.length + share w) * 16777216).fdiv (wholeN w.length)) = x at *
 have hE : (startN w w.length + share w) * 16777216 = startN w w.length * 16777216 + arcB w := by unfold arcB; rw [Int.add_mul]
 have hx : (x - 1) * wholeN w.length = x * wholeN w.length - wholeN w.length := by rw [Int.sub_mul]; lia
 refine ⟨⟨by unfold arcA; lia, by unfold arcA; lia⟩, fun e he => ?_⟩
 have he1 : arcA e w < arcB w := he.2
 unfold arcA at he1
 rcases Int.lt_or_le (x - 1) e with q | q
 ·exfalso
  have : x * wholeN w.length ≤ e * wholeN w.length := Int.mul_le_mul_of_nonneg_right (by lia) (by lia)
  lia
 ·exact q
theorem text_whole {t : List Int} (h : ∀ x ∈ t, 1 ≤ x ∧ x < 5) (hl : t.length ≤ 4) : Rk5 (t ++ [0]) ∧ Whole (t ++ [0]) := by
 refine ⟨fun x hx => ?_, by simp; omega, fun k hk => ?_, .inl (by simp)⟩
 ·rcases List.mem_append.mp hx with hx | hx
  ·have := h x hx; lia
  ·rw [List.mem_singleton.mp hx]; decide
 ·simp at hk
  rw [getD_left hk, List.getD_eq_getElem?_getD, List.getElem?_eq_getElem hk]
  have := h _ (List.getElem_mem hk)
  show t[k] ≠ 0
  lia
noncomputable def rank3 (L : Nat → List Int) (i : Nat) : Int := (if lexLt (L 0) (L i) then 1 else 0) + (if lexLt (L 1) (L i) then 1 else 0) + (if lexLt (L 2) (L i) then 1 else 0)
theorem term_le {L : Nat → List Int} {i j k : Nat} (h : lexLt (L i) (L j) = true) : (if lexLt (L k) (L i) then (1 : Int) else 0) ≤ if lexLt (L k) (L j) then 1 else 0 := by
 by_cases q : lexLt (L k) (L i) = true
 ·rw [if_pos q, if_pos (lexLt_trans q h)]; exact Int.ofNat_nonneg _
 ·rw [if_neg q]; split <;> exact Int.ofNat_nonneg _
theorem rank_lt {L : Nat → List Int} {i j : Nat} (hi : i < 3) (h : lexLt (L i) (L j) = true) : rank3 L i < rank3 L j := by
 have t0 := term_le (k := 0) h
 have t1 := term_le (k := 1) h
 have t2 := term_le (k := 2) h
 have s1 : (if lexLt (L i) (L i) then (1 : Int) else 0) = 0 := by rw [lexLt_irrefl]; rfl
 have s2 : (if lexLt (L i) (L j) then (1 : Int) else 0) = 1 := by rw [h]; rfl
 unfold rank3
 rcases below3 hi with rfl | rfl | rfl <;> lia
theorem rank_lex {L : Nat → List Int} {i j : Nat} (hi : i < 3) (hj : j < 3) : lexLt (L i) (L j) = decide (rank3 L i < rank3 L j) := by
 cases q : lexLt (L i) (L j) with
 | true => rw [decide_eq_true (rank_lt hi q)]
 | false =>
  symm
  rw [decide_eq_false_iff_not]
  cases q2 : lexLt (L j) (L i) with
  | true => have := rank_lt hj q2; lia
  | false =>
   have := lexLt_total q q2
   unfold rank3
   rw [this]; lia
theorem ranked {L : Nat → List Int} {e : Nat → Int} {w0 w2 : List Int} (h5 : ∀ i, i < 3 → Rk5 (L i)) (hw : ∀ i, i < 3 → Whole (L i)) (hi : ∀ i, i < 3 → In (e i) (L i)) (e0 : L 0 = w0) (e2 : L 2 = w2) (f0 : ∀ x, In x w0 → e 0 ≤ x) (f2 : ∀ x, In x w2 → x ≤ e 2) :
  ∀ i j, i < j → j < 3 → (64 * e j < 64 * e i ↔ rank3 L j < rank3 L i) := by
 have mono : ∀ i j, i < 3 → j < 3 → e i ≤ e j → lexLt (L j) (L i) = false := fun i j h h' hle => lex_mono hle (rs := []) (h5 i h) (h5 j h') (hw i h) (hw j h') (hi i h) (hi j h')
 have same : ∀ i j, i < j → j < 3 → L i = L j → e i ≤ e j := fun i j hij hj q => by
  have : (i = 0 ∧ j = 1) ∨ (i = 0 ∧ j = 2) ∨ (i = 1 ∧ j = 2) := by lia
  rcases this with ⟨rfl, rfl⟩ | ⟨rfl, rfl⟩ | ⟨rfl, rfl⟩
  ·exact f0 _ (by rw [← e0, q]; exact hi 1 (by omega))
  ·exact f0 _ (by rw [← e0, q]; exact hi 2 (by omega))
  ·exact f2 _ (by rw [← e2, ← q]; exact hi 1 (by lia))
 intro i j hij hj
 have hi3 : i < 3 := by lia
 have key : rank3 L j < rank3 L i ↔ lexLt (L j) (L i) = true := by rw [rank_lex hj hi3, decide_eq_true_iff]
 rw [key]
 constructor
 ·intro h
  have h1 := mono j i hj hi3 (by lia)
  cases q : lexLt (L j) (L i) with
  | true => rfl
  | false =>
   have := same i j hij hj (lexLt_total h1 q)
   lia
 ·intro h
  rcases Int.lt_or_le (e j) (e i) with q | q
  ·lia
  ·have := mono i j hi3 hj q
   rw [h] at this; cases this
theorem fmodK (a : Int) (k : Nat) (hk : 0 < k) : ∃ n : Nat, a.fmod (k : Int) = (n : Int) ∧ n < k := by
 obtain ⟨n, h1, h2, _⟩ := fmodN a k (by lia)
 exact ⟨n, h1, Int.ofNat_lt.mp h2⟩
theorem apart {x : Int} {a b s : Nat} (h1 : x.fmod 48 = (a : Int)) (h2 : (x + s).fmod 48 = (b : Int)) (l1 : 1 ≤ s) (l2 : s < 48) : a ≠ b := by
 rw [Int.fmod_eq_emod_of_nonneg _ (by decide)] at h1 h2
 omega
theorem self48 {i : Nat} (h : i < 48) : (i : Int).fmod 48 = (i : Int) := by
 rw [Int.fmod_eq_emod_of_nonneg _ (by decide)]
 omega
theorem told_get {i : Nat} (h : i < 48) : ∃ s, toldL[i]? = some s := ⟨_, List.getElem?_eq_getElem (show i < toldL.length from told_len ▸ h)⟩
theorem of3 {p : Nat → Prop} (h0 : p 0) (h1 : p 1) (h2 : p 2) : ∀ k, k < 3 → p k := fun k hk => by
 rcases below3 hk with rfl | rfl | rfl <;> assumption
noncomputable def sel3 {α : Type} (x y z : α) (k : Nat) : α := if k = 0 then x else if k = 1 then y else z
theorem one4 {n : Nat} (h : n < 4) : 1 ≤ 1 + (n : Int) ∧ 1 + (n : Int) < 5 := by omega
theorem in14 {n : Nat} (h : n < 4) : 0 ≤ 1 + (n : Int) ∧ 1 + (n : Int) ≤ 4 := by omega
theorem in04 {n : Nat} (h : n < 5) : 0 ≤ (n : Int) ∧ (n : Int) ≤ 4 := by omega
theorem in03 (x : Int) : 0 ≤ x.fmod 4 ∧ x.fmod 4 ≤ 3 := by
 rw [Int.fmod_eq_emod_of_nonneg _ (by decide)]
 omega
theorem nz_mul (m n : Nat) : (1 + (m : Int)) * (1 + (n : Int)) ≠ 0 := Int.mul_ne_zero (by omega) (by omega)
theorem zero_or {x : Prop} [Decidable x] {z : Int} (h : 0 ≤ z ∧ z < 16777216) : 0 ≤ (if x then 0 else z) ∧ (if x then 0 else z) < 16777216 := by
 split
 ·decide
 ·exact h
theorem hue_if (z u v : Int) : hueOf z u v = 64 * (if u * v = 0 then 0 else z) := by
 unfold hueOf
 split <;> rfl
theorem nat_spot {n : Nat} (h : n < 16777216) : 0 ≤ (n : Int) ∧ (n : Int) < 16777216 := by omega
structure DealD where
 (i0 i1 i2 d1 d2 j r j1 j2 m : Nat)
 (s0 s1 s2 a b cc pp f g : Str)
 names : List Str
 text : List Int
 (u v tn z e : Nat → Int)
 h : Nat → Hd
structure Deal (P : Params) (c : Nat → Int) (d : DealD) : Prop where
 ei0 : (c 0).fmod 48 = (d.i0 : Int)
 ed1 : ((c 0).fdiv 48).fmod 23 = (d.d1 : Int)
 ei1 : ((d.i0 : Int) + 1 + d.d1).fmod 48 = (d.i1 : Int)
 ed2 : ((c 0).fdiv 1104).fmod 23 = (d.d2 : Int)
 ei2 : ((d.i0 : Int) + 1 + d.d1 + 1 + d.d2).fmod 48 = (d.i2 : Int)
 li : d.i0 < 48 ∧ d.i1 < 48 ∧ d.i2 < 48 ∧ d.d1 < 23 ∧ d.d2 < 23
 h0 : toldL[d.i0]? = some d.s0
 h1 : toldL[d.i1]? = some d.s1
 h2 : toldL[d.i2]? = some d.s2
 hF : toldL.filter (fun x => decide (x ∈ [d.s0, d.s1, d.s2])) = [d.a, d.b, d.cc]
 ej : ((c 2).fdiv 45).fmod 2 = (d.j : Int)
 lj : d.j < 2
 hpp : ∃ k, (Str.ofString "pP").cps[d.j]? = some k ∧ d.pp = ⟨#[k]⟩
 er : ((c 2).fdiv 9).fmod 5 = (d.r : Int)
 lr : d.r < 5
 hn : (([sEnd, d.s0, d.pp, d.s1, d.s2] ++ [sEnd, d.s0, d.pp, d.s1, d.s2]).drop d.r).take 5 = d.names
 ej1 : (c 2).fmod 3 = (d.j1 : Int)
 ej2 : ((c 2).fdiv 3).fmod 3 = (d.j2 : Int)
 lj1 : d.j1 < 3
 lj2 : d.j2 < 3
 hf : [sEnd, d.a, d.b, d.cc, sP][1 + d.j1]? = some d.f
 hg : [sEnd, d.a, d.b, d.cc, sP][1 + d.j2]? = some d.g
 deck : Deck d.a d.b d.cc d.names (d.f ++ sSp ++ d.g) d.f d.g
 em : (c 1).fmod 5 = (d.m : Int)
 lm : d.m < 5
 ht : d.text = (List.range d.m).map fun (k : Nat) => 1 + (((c 1).fdiv 5).fdiv (4 ^ k)).fmod 4
 ht5 : ∀ x ∈ d.text, 1 ≤ x ∧ x < 5
 ez0 : -((-(startN (d.text ++ [0]) (d.text ++ [0]).length) * 16777216).fdiv (wholeN (d.text ++ [0]).length)) = d.z 0
 ez1 : (c 3 * 1024 + c 4).fmod 16777216 = d.z 1
 ez2 : -((-(startN (d.text.reverse ++ [0]) (d.text.reverse ++ [0]).length + share (d.text.reverse ++ [0])) * 16777216).fdiv (wholeN (d.text.reverse ++ [0]).length)) - 1 = d.z 2
 lz : ∀ k, k < 3 → 0 ≤ d.z k ∧ d.z k < 16777216
 eu0 : 1 + (c 5).fmod 4 = d.u 0
 ev0 : 1 + ((c 5).fdiv 4).fmod 4 = d.v 0
 eu1 : ((c 5).fdiv 16).fmod 5 = d.u 1
 ev1 : ((c 5).fdiv 80).fmod 5 = d.v 1
 eu2 : 1 + ((c 5).fdiv 400).fmod 4 = d.u 2
 ev2 : 1 + ((c 5).fdiv 1600).fmod 4 = d.v 2
 lu : ∀ k, k < 3 → 0 ≤ d.u k ∧ d.u k ≤ 4
 lv : ∀ k, k < 3 → 0 ≤ d.v k ∧ d.v k ≤ 4
 et : ∀ k : Nat, k < 3 → (c 5 + k).fmod 4 = d.tn k ∧ 0 ≤ d.tn k ∧ d.tn k ≤ 3
 ee : ∀ k, k < 3 → hueOf (d.z k) (d.u k) (d.v k) = 64 * d.e k
 ee1 : d.e 1 = if d.u 1 * d.v 1 = 0 then 0 else d.z 1
 le : ∀ k, k < 3 → 0 ≤ d.e k ∧ d.e k < 16777216
 hd : ∀ k, k < 3 → HeardOk P d.a d.b d.cc d.names (d.f ++ sSp ++ d.g) (d.e k) (d.h k)
 w0 : ((d.h 0).us).map (rkI d.a d.b d.cc) = d.text ++ [0]
 w2 : ((d.h 2).us).map (rkI d.a d.b d.cc) = d.text.reverse ++ [0]
 same : ∀ i j, i < j → j < 3 → (64 * d.e j < 64 * d.e i ↔ rank3 (fun k => ((d.h k).us).map (rkI d.a d.b d.cc)) j < rank3 (fun k => ((d.h k).us).map (rkI d.a d.b d.cc)) i)
theorem pp_ok {j : Nat} (h : j < 2) : ∃ pp, (∃ k, (Str.ofString "pP").cps[j]? = some k ∧ pp = ⟨#[k]⟩) ∧ (pp = sP ∨ pp = sPP) := by
 rcases below2 h with rfl | rfl
 ·exact ⟨sP, ⟨112, by decide, by decide⟩, .inl rfl⟩
 ·exact ⟨sPP, ⟨80, by decide, by decide⟩, .inr rfl⟩
theorem pick3 (a b c : Str) {k : Nat} (h : k < 3) : ∃ f, [sEnd, a, b, c, sP][1 + k]? = some f ∧ f ∈ [a, b, c] := by
 rcases below3 h with rfl | rfl | rfl
 ·exact ⟨a, rfl, .head _⟩
 ·exact ⟨b, rfl, .tail _ (.head _)⟩
 ·exact ⟨c, rfl, .tail _ (.tail _ (.head _))⟩
theorem deal_deck {a b c s0 s1 s2 pp f g : Str} {names : List Str} {r : Nat} (T : Trio a b c) (hp : [a, b, c].Perm [s0, s1, s2]) (hpp : pp = sP ∨ pp = sPP) (lr : r < 5)
  (hn : (([sEnd, s0, pp, s1, s2] ++ [sEnd, s0, pp, s1, s2]).drop r).take 5 = names) (mf : f ∈ [a, b, c]) (mg : g ∈ [a, b, c]) : Deck a b c names (f ++ sSp ++ g) f g := by
 subst hn
 refine ⟨T, ⟨pp, hpp, (rot_perm rfl lr).trans (List.Perm.cons _ ?_)⟩, mf, mg, rfl⟩
 exact (List.Perm.swap pp s0 [s1, s2]).trans ((List.Perm.cons pp hp.symm).trans (List.perm_append_singleton pp [a, b, c]).symm)
theorem deal_signs (x y z : Int) : ∃ i0 d1 i1 d2 i2 : Nat, (x.fmod 48 = (i0 : Int) ∧ y.fmod 23 = (d1 : Int) ∧ ((i0 : Int) + 1 + d1).fmod 48 = (i1 : Int) ∧ z.fmod 23 = (d2 : Int) ∧ ((i0 : Int) + 1 + d1 + 1 + d2).fmod 48 = (i2 : Int)) ∧
  (i0 < 48 ∧ i1 < 48 ∧ i2 < 48 ∧ d1 < 23 ∧ d2 < 23) ∧ i0 ≠ i1 ∧ i0 ≠ i2 ∧ i1 ≠ i2 := by
 obtain ⟨i0, ei0, l0⟩ := fmodK x 48 (by decide)
 obtain ⟨d1, ed1, m1⟩ := fmodK y 23 (by decide)
 obtain ⟨i1, ei1, l1⟩ := fmodK ((i0 : Int) + 1 + d1) 48 (by decide)
 obtain ⟨d2, ed2, m2⟩ := fmodK z 23 (by decide)
 obtain ⟨i2, ei2, l2⟩ := fmodK ((i0 : Int) + 1 + d1 + 1 + d2) 48 (by decide)
 refine ⟨i0, d1, i1, d2, i2, ⟨ei0, ed1, ei1, ed2, ei2⟩, ⟨l0, l1, l2, m1, m2⟩, apart (s := 1 + d1) (self48 l0) ?_ ?_ ?_, apart (s := 1 + d1 + 1 + d2) (self48 l0) ?_ ?_ ?_, apart (s := 1 + d2) ei1 ?_ ?_ ?_⟩
 ·rw [← ei1, Int.add_assoc]; rfl
 ·exact Nat.le_add_right _ _
 ·omega
 ·rw [← ei2, Int.add_assoc, Int.add_assoc, Int.add_assoc, Nat.add_assoc, Nat.add_assoc]; rfl
 ·omega
 ·omega
 ·rw [← ei2, Int.add_assoc ((i0 : Int) + 1 + d1)]; rfl
 ·exact Nat.le_add_right _ _
 ·omega
theorem deal_text (x : Int) (m : Nat) : ∀ y ∈ (List.range m).map fun (k : Nat) => 1 + (x.fdiv (4 ^ k)).fmod 4, 1 ≤ y ∧ y < 5 := fun y hy => by
 obtain ⟨k, _, rfl⟩ := List.mem_map.mp hy
 obtain ⟨n, h1, h2⟩ := fmodK (x.fdiv (4 ^ k)) 4 (by decide)
 exact h1 ▸ one4 h2
theorem deal_ok (P : Params) (c : Nat → Int) : ∃ d, Deal P c d := by
 obtain ⟨i0, d1, i1, d2, i2, ⟨ei0, ed1, ei1, ed2, ei2⟩, li, n1, n2, n3⟩ := deal_signs (c 0) ((c 0).fdiv 48) ((c 0).fdiv 1104)
 obtain ⟨s0, h0⟩ := told_get li.1
 obtain ⟨s1, h1⟩ := told_get li.2.1
 obtain ⟨s2, h2⟩ := told_get li.2.2.1
 obtain ⟨a, b, cc, hF, T, hperm⟩ := three_signs h0 h1 h2 n1 n2 n3
 obtain ⟨j, ej, lj⟩ := fmodK ((c 2).fdiv 45) 2 (by decide)
 obtain ⟨pp, hpp, hpp'⟩ := pp_ok lj
 obtain ⟨r, er, lr⟩ := fmodK ((c 2).fdiv 9) 5 (by decide)
 obtain ⟨j1, ej1, lj1⟩ := fmodK (c 2) 3 (by decide)
 obtain ⟨j2, ej2, lj2⟩ := fmodK ((c 2).fdiv 3) 3 (by decide)
 obtain ⟨f, hf, mf⟩ := pick3 a b cc lj1
 obtain ⟨g, hg, mg⟩ := pick3 a b cc lj2
 obtain ⟨names, hn⟩ : ∃ n, (([sEnd, s0, pp, s1, s2] ++ [sEnd, s0, pp, s1, s2]).drop r).take 5 = n := ⟨_, rfl⟩
 have deck := deal_deck T hperm hpp' lr hn mf mg
 obtain ⟨m, em, lm⟩ := fmodK (c 1) 5 (by decide)
 obtain ⟨text, ht⟩ : ∃ t, t = (List.range m).map fun (k : Nat) => 1 + (((c 1).fdiv 5).fdiv (4 ^ k)).fmod 4 := ⟨_, rfl⟩
 have ht5 : ∀ x ∈ text, 1 ≤ x ∧ x < 5 := ht ▸ deal_text _ m
 have htl : text.length ≤ 4 := by rw [ht, List.length_map, List.length_range]; exact Nat.le_of_lt_succ lm
 obtain ⟨a5, aw⟩ := text_whole ht5 htl
 obtain ⟨b5, bw⟩ := text_whole (t := text.reverse) (fun x hx => ht5 x (List.mem_reverse.mp hx)) (by rw [List.length_reverse]; exact htl)
 obtain ⟨z0, hz0, in0, first⟩ := first_hue a5 aw.1
 obtain ⟨z2, hz2, in2, last⟩ := last_hue b5 bw.1
 have lz0 := in0.bounds a5 aw.1
 have lz2 := in2.bounds b5 bw.1
 obtain ⟨z1, ez1, lz1⟩ := fmodK (c 3 * 1024 + c 4) 16777216 (by decide)
 obtain ⟨q0, eq0, lq0⟩ := fmodK (c 5) 4 (by decide)
 obtain ⟨q1, eq1, lq1⟩ := fmodK ((c 5).fdiv 4) 4 (by decide)
 obtain ⟨q2, eq2, lq2⟩ := fmodK ((c 5).fdiv 16) 5 (by decide)
 obtain ⟨q3, eq3, lq3⟩ := fmodK ((c 5).fdiv 80) 5 (by decide)
 obtain ⟨q4, eq4, lq4⟩ := fmodK ((c 5).fdiv 400) 4 (by decide)
 obtain ⟨q5, eq5, lq5⟩ := fmodK ((c 5).fdiv 1600) 4 (by decide)
 obtain ⟨u, hu⟩ : ∃ u : Nat → Int, u = sel3 (1 + (q0 : Int)) (q2 : Int) (1 + (q4 : Int)) := ⟨_, rfl⟩
 obtain ⟨v, hv⟩ : ∃ v : Nat → Int, v = sel3 (1 + (q1 : Int)) (q3 : Int) (1 + (q5 : Int)) := ⟨_, rfl⟩
 obtain ⟨z, hz⟩ : ∃ z : Nat → Int, z = sel3 z0 (z1 : Int) z2 := ⟨_, rfl⟩
 have lu : ∀ k, k < 3 → 0 ≤ u k ∧ u k ≤ 4 := by subst hu; exact of3 (in14 lq0) (in04 lq2) (in14 lq4)
 have lv : ∀ k, k < 3 → 0 ≤ v k ∧ v k ≤ 4 := by subst hv; exact of3 (in14 lq1) (in04 lq3) (in14 lq5)
 have lz : ∀ k, k < 3 → 0 ≤ z k ∧ z k < 16777216 := by subst hz; exact of3 lz0 (nat_spot lz1) lz2
 obtain ⟨e, he⟩ : ∃ e : Nat → Int, e = fun k => if u k * v k = 0 then 0 else z k := ⟨_, rfl⟩
 have le : ∀ k, k < 3 → 0 ≤ e k ∧ e k < 16777216 := fun k hk => he ▸ zero_or (lz k hk)
 have nz0 : e 0 = z0 := by subst he hu hv hz; exact if_neg (nz_mul q0 q1)
 have nz2 : e 2 = z2 := by subst he hu hv hz; exact if_neg (nz_mul q4 q5)
 obtain ⟨x0, H0⟩ := right_ok deck P (le 0 (by decide))
 obtain ⟨x1, H1⟩ := right_ok deck P (le 1 (by decide))
 obtain ⟨x2, H2⟩ := right_ok deck P (le 2 (by decide))
 have w0 := in_unique (e := z0) H0.r5 a5 H0.whole aw (nz0 ▸ H0.isin) in0
 have w2 := in_unique (e := z2) H2.r5 b5 H2.whole bw (nz2 ▸ H2.isin) in2
 have hd : ∀ k, k < 3 → HeardOk P a b cc names (f ++ sSp ++ g) (e k) (sel3 x0 x1 x2 k) := of3 H0 H1 H2
 exact ⟨{ i0, i1, i2, d1, d2, j, r, j1, j2, m, s0, s1, s2, a, b, cc, pp, f, g, names, text, u, v, z, e, tn := fun k => (c 5 + (k : Int)).fmod 4, h := sel3 x0 x1 x2 },
  {
   ei0, ed1, ei1, ed2, ei2, li, h0, h1, h2, hF, ej, lj, hpp, er, lr, hn, ej1, ej2, lj1, lj2, hf, hg, deck, em, lm, ht, ht5, lz, lu, lv, le, hd, w0, w2
   ez0 := by subst hz; exact hz0
   ez1 := by subst hz; exact ez1
   ez2 := by subst hz; exact hz2
   eu0 := by subst hu; exact congrArg (1 + ·) eq0
   ev0 := by subst hv; exact congrArg (1 + ·) eq1
   eu1 := by subst hu; exact eq2
   ev1 := by subst hv; exact eq3
   eu2 := by subst hu; exact congrArg (1 + ·) eq4
   ev2 := by subst hv; exact congrArg (1 + ·) eq5
   et := fun k q_ => ⟨rfl, in03 _⟩
   ee := fun k q_ => he ▸ hue_if ..
   ee1 := congrFun he 1
   same := ranked (fun k hk => (hd k hk).r5) (fun k hk => (hd k hk).whole) (fun k hk => (hd k hk).isin) w0 w2 (fun x h => Int.le_trans (Int.le_of_eq nz0) (first x h)) (fun x h => Int.le_trans (last x h) (Int.le_of_eq nz2.symm)) }⟩
section
theorem fnL {c : C1} {n : Nat} {H : List HObj} {f : Addr} {fd : FuncData} {oc : Value} {od : Option Addr} {osl : Array (Option Value)} {body : List PySem.Stmt} {args : List V} {ns : List Str} {vs : List V}
  (ho : (hd01.heap_39 c.w.params).lookup f = some ⟨oc, od, .func fd, osl⟩) (hb : fd.body = .stmts body) (hst : fdOk fd = true) (hcd : codeIn (hd01.heap_39 c.w.params) fd.code fd.qualname = true) (hns : namesOk fd ns = true) (hnd : ns.Nodup)
  (hbind : Binds c.ct.raw fd args [] ns vs) (hbody : ∀ (A : Around) (env : Env), env.scope = fd.scope → A.frames = some [env] → env.frame = some env.locals → env.locals ≠ sysModules → ExK c.ct.raw n A H.length H env (ns.zip vs) H body) :
  FnL c.ct.raw (n + 1) (.val (.ref f)) args H := FnL.ofDef (C := c.ct.raw) ho hb hst hcd hns hnd (Binds.wide hbind) hbody
noncomputable abbrev law0 : List HObj := [.sem (tabA 0 303 "_law_right.<locals>.<lambda>"), .sem (tabA 1 315 "_law_ranked.<locals>.<lambda>")]
noncomputable def bases : List Int := [11913, 279, 74, 9000, 777, 1314]
theorem enum_bases : enumV [.int 11913, .int 279, .int 74, .int 9000, .int 777, .int 1314] = bases.zipIdx.map fun (q : Int × Nat) => V.tup [.int (q.2 : Int), .int q.1] := rfl
noncomputable def sel (ns : List Int) (k : Nat) : List Int := pick (pick ns none (some 60) none) (some (k : Int)) none (some 6)
theorem sel_map (ns : List Int) (k : Nat) : pick (pick (ns.map V.int) none (some 60) none) (some (k : Int)) none (some 6) = (sel ns k).map V.int := by unfold sel; rw [pick_map, pick_map]
theorem pick_step_len {α : Type} (l : List α) (k : Nat) : (pick l (some (k : Int)) none (some 6)).length ≤ l.length := by
 unfold pick
 refine Nat.le_trans (List.length_filterMap_le _ _) ?_
 exact sliceIndicesBy_le (some (k : Int)) none 6 (by decide) l.length
theorem take60_len {α : Type} (l : List α) : (pick l none (some 60) none).length ≤ 60 := by
 have : pick l none (some 60) none = l.take 60 := pick_upto l 60
 rw [this, List.length_take]; lia
theorem sel_le (ns : List Int) (k : Nat) : (sel ns k).length ≤ 60 := Nat.le_trans (pick_step_len _ k) (take60_len ns)
theorem sel_len0 {ns : List Int} (h : ns.length ≤ 100) : (pick (ns.map V.int) none (some 60) none).length ≤ 16777216 := Nat.le_trans (take60_len _) (by decide)
theorem sel_len1 {ns : List Int} {k : Nat} (h : ns.length ≤ 100) : ((sel ns k).map V.int).length ≤ 16777216 := by rw [List.length_map]; exact Nat.le_trans (sel_le ns k) (by decide)
theorem fm6 (x : Int) : 0 ≤ x.fmod 1000000 ∧ x.fmod 1000000 < 1000000 := by
 obtain ⟨n, h1, h2, _⟩ := fmodN x 1000000 (by decide)
 lia
theorem sum_le {l : List Int} (h : ∀ x ∈ l, 0 ≤ x ∧ x < 1000000) : 0 ≤ l.sum ∧ l.sum ≤ 1000000 * l.length := by
 induction l with
 | nil => simp
 | cons x l ih =>
  have h1 := h x (.head _)
  have h2 := ih fun y m => h y (.tail _ m)
  simp only [List.sum_cons, List.length_cons]
  lia
theorem sel_each (ns : List Int) (k : Nat) : ∀ x ∈ (sel ns k).map (fun x => x.fmod 1000000), -(2 ^ 62) < x ∧ x < 2 ^ 62 := fun x hx => by
 obtain ⟨y, _, rfl⟩ := List.mem_map.mp hx
 have := fm6 y
 omega
theorem sel_mem {ns : List Int} {k : Nat} : ∀ x ∈ (sel ns k).map (fun x => x.fmod 1000000), 0 ≤ x ∧ x < 1000000 := fun x hx => by
 obtain ⟨y, _, rfl⟩ := List.mem_map.mp hx
 exact fm6 y
theorem sel_sums {ns : List Int} {k : Nat} (h : ns.length ≤ 100) : ∀ j, -(2 ^ 62) < (((sel ns k).map fun x => x.fmod 1000000).take j).sum ∧ (((sel ns k).map fun x => x.fmod 1000000).take j).sum < 2 ^ 62 := fun j => by
 have h1 := sum_le (l := ((sel ns k).map fun x => x.fmod 1000000).take j) fun x hx => sel_mem x (List.mem_of_mem_take hx)
 have h2 : (((sel ns k).map fun x => x.fmod 1000000).take j).length ≤ 60 := by
  rw [List.length_take, List.length_map]
  have := sel_le ns k
  lia
 omega
noncomputable def cellOf (ns : List Int) (k : Nat) : Int := bases.getD k 0 + ((sel ns k).map fun x => x.fmod 1000000).sum
theorem cell_bound {ns : List Int} (h : ns.length ≤ 100) : ∀ k, k < 6 → (cellOf ns k).natAbs ≤ 100000000 := fun k hk => by
 have h1 := sum_le (l := (sel ns k).map fun x => x.fmod 1000000) sel_mem
 rw [List.length_map] at h1
 have h2 := sel_le ns k
 have h3 : 0 ≤ bases.getD k 0 ∧ bases.getD k 0 ≤ 20000 := by
  exact (by decide : ∀ k, k < 6 → 0 ≤ bases.getD k 0 ∧ bases.getD k 0 ≤ 20000) k (by assumption)
 unfold cellOf
 omega
theorem told_words : Txt.words "( ) [ ] : , ; + - * / | & < > = . % { } == != <= >= ~ ^ << >> ** += -= *= /= %= &= |= ^= <<= >>= **= // //= @ @= -> ... := !" = toldL := by decide +kernel
theorem told_spaces : (Builtin.Str.spaceWords "( ) [ ] : , ; + - * / | & < > = . % { } == != <= >= ~ ^ << >> ** += -= *= /= %= &= |= ^= <<= >>= **= // //= @ @= -> ... := !" ("( ) [ ] : , ; + - * / | & < > = . % { } == != <= >= ~ ^ << >> ** += -= *= /= %= &= |= ^= <<= >>= **= // //= @ @= -> ... := !".length + 1)).length ≤ sizeLine := by decide +kernel
theorem told_itm {C : Ct} {n : Nat} {e : PySem.Expr} {H : List HObj} {i : Nat} {s : Str} (h : toldL[i]? = some s) (hi : i < 48) (hp : Plain1 e := by exact fun q_ q_ => rfl) : Itm C n e (.lst (toldL.map V.str)) (.int (i : Int)) H (.str s) :=
 Itm.lst Lsy.lst (by exact Int.ofNat_nonneg _) (by lia) (by rw [Int.toNat_natCast, List.getElem?_map, h]; rfl) hp
theorem order_eq {F G : List Str} (h : F = G) : V.lst (([V.str ""] ++ (F.map fun x => x).map V.str) ++ [V.str "p"]) = .lst (([sEnd] ++ G ++ [sP]).map V.str) := by
 subst h; simp
theorem filter_len {p : Str → Bool} : ((toldL.filter p).map fun x => x).length ≤ 48 := by rw [List.length_map]; exact Nat.le_trans (List.length_filter_le _ _) (Nat.le_of_eq told_len)
theorem order_len1 {p : Str → Bool} : [V.str ""].length + (((toldL.filter p).map fun x => x).map V.str).length ≤ sizeLine := le_size (by have := filter_len (p := p); rw [List.length_map]; simp at *; lia)
theorem order_len2 {p : Str → Bool} : ([V.str ""] ++ ((toldL.filter p).map fun x => x).map V.str).length + [V.str "p"].length ≤ sizeLine := le_size (by have := filter_len (p := p); rw [List.length_append, List.length_map]; simp at *; lia)
theorem pp_itm {C : Ct} {n : Nat} {e : PySem.Expr} {H : List HObj} {j : Nat} {pp : Str} (h : ∃ k, (Str.ofString "pP").cps[j]? = some k ∧ pp = ⟨#[k]⟩) (hj : j < 2) (hp : Plain1 e := by exact fun q_ q_ => rfl) : Itm C n e (.str (Str.ofString "pP")) (.int (j : Int)) H (.str pp) := by
 obtain ⟨k, h1, rfl⟩ := h
 exact Itm.str h1 (by lia) hp
theorem balls_pick {L : List V} {r : Nat} : pick (pick (List.replicate (2 : Int).toNat L).flatten (some (r : Int)) none none) none (some 5) none = ((L ++ L).drop r).take 5 := by
 rw [pick_from]
 have := pick_upto (((List.replicate (2 : Int).toNat L).flatten).drop r) 5
 rw [show pick (((List.replicate (2 : Int).toNat L).flatten).drop r) none (some 5) none = _ from this]
 simp [List.replicate]
theorem balls_eq {L names : List Str} {r : Nat} (h : ((L ++ L).drop r).take 5 = names) : V.lst (pick (pick (List.replicate (2 : Int).toNat (L.map V.str)).flatten (some (r : Int)) none none) none (some 5) none) = .lst (names.map V.str) := by
 rw [balls_pick, ← h, List.map_take, List.map_drop, List.map_append]
theorem balls_len {L names : List Str} {r : Nat} (h : ((L ++ L).drop r).take 5 = names) (hl : L.length = 5 := by rfl) : (pick (List.replicate (2 : Int).toNat (L.map V.str)).flatten (some (r : Int)) none none).length ≤ 16777216 := by
 rw [pick_from]; simp [List.replicate]; lia
theorem order_itm {C : Ct} {n : Nat} {e : PySem.Expr} {H : List HObj} {a b c f : Str} {j : Nat} (h : [sEnd, a, b, c, sP][1 + j]? = some f) (hj : j < 3) (hp : Plain1 e := by exact fun q_ q_ => rfl) : Itm C n e (.lst (([sEnd] ++ [a, b, c] ++ [sP]).map V.str)) (.int (1 + (j : Int))) H (.str f) :=
 Itm.lst Lsy.lst (by exact Int.ofNat_nonneg _) (by lia) (by rw [show (1 + (j : Int)).toNat = 1 + j by rfl, List.getElem?_map]; show Option.map _ [sEnd, a, b, c, sP][1 + j]? = _; rw [h]; rfl) hp
section
variable {P : Params} {c : Nat → Int} {d : DealD} (q : Deal P c d)
include q
theorem phrase_len : d.f.length + (Str.ofString " ").length ≤ 16777216 ∧ (d.f ++ Str.ofString " ").length + d.g.length ≤ 16777216 := by
 obtain ⟨h1, h2⟩ := q.deck.told
 have l1 := hs_len (.inr (.inl h1))
 have l2 := hs_len (.inr (.inl h2))
 have l3 : (Str.ofString " ").length = 1 := by decide
 rw [length_app]
 lia
theorem text_le : d.text.length ≤ 4 := by rw [q.ht]; have := q.lm; simp; exact Nat.le_of_lt_succ (by assumption)
theorem text_len : (d.text.map V.int).length + [V.int 0].length ≤ 16777216 := by have := text_le q; simp; lia
theorem rev_len : (d.text.map V.int).reverse.length + [V.int 0].length ≤ 16777216 := by have := text_le q; simp; lia
theorem word_len : (d.text ++ [0]).length ≤ 5 ∧ (d.text.reverse ++ [0]).length ≤ 5 := by have := text_le q; simp; omega
theorem word_rk : Rk5 (d.text ++ [0]) ∧ Rk5 (d.text.reverse ++ [0]) := ⟨(text_whole q.ht5 (text_le q)).1, (text_whole (fun x hx => q.ht5 x (List.mem_reverse.mp hx)) (by rw [List.length_reverse]; exact text_le q)).1⟩
end
theorem rng_nat (m : Nat) : rngL 0 (m : Int) = (List.range m).map fun (k : Nat) => V.int (k : Int) := by
 unfold rngL
 rw [Int.sub_zero, Int.toNat_natCast]
 exact List.map_congr_left fun k q_ => by rw [Int.zero_add]
theorem pow4 {C : Ct} {n : Nat} {H : List HObj} {k : Nat} (hk : k < 5) : Bin C n .Pow (.int 4) (.int (k : Int)) H H (.int (4 ^ k)) := by
 have := Bin.pow (C := C) (n := n) (H := H) (a := 4) (b := (k : Int)) (by lia) (by lia) (by decide)
 rwa [Int.toNat_natCast] at this
theorem pow4_ne (k : Nat) : (4 : Int) ^ k ≠ 0 := Int.pow_ne_zero (by decide)
theorem pow4_log {k : Nat} (hk : k < 5) : ((4 : Int) ^ k).natAbs.log2 < 9000 := by
 rcases below5 hk with rfl | rfl | rfl | rfl | rfl <;> decide
theorem snoc_eq (t : List Int) : V.lst (t.map V.int ++ [V.int 0]) = .lst ((t ++ [0]).map V.int) := by rw [List.map_append]; rfl
theorem rev_eq (t : List Int) : V.lst ((t.map V.int).reverse ++ [V.int 0]) = .lst ((t.reverse ++ [0]).map V.int) := by rw [List.map_append, List.map_reverse]; rfl
theorem sliceRange_back (n : Nat) : sliceRange ((n : Int) - 1) (-1) (-1) = (List.range n).map fun k => n - 1 - k := by
 have := picked_rev n
 unfold Builtin.Str.strSliceIndices at this
 simpa using this
theorem fm_get {l : List V} : ∀ {is : List Nat}, (∀ i ∈ is, i < l.length) → is.filterMap (l[·]?) = is.map fun i => l.getD i .none
 | [], _ => rfl
 | i :: is, h => by
  rw [List.filterMap_cons, List.map_cons, fm_get fun j m => h j (.tail _ m)]
  have hi := h i (.head _)
  simp [hi]
theorem pick_back (l : List V) : pick l none none (some (-1)) = l.reverse := by
 have e : sliceBounds none none (some (-1)) l.length = ((l.length : Int) - 1, -1, -1) := by simp [sliceBounds]
 unfold pick
 rw [e]
 show (sliceRange _ _ _).filterMap _ = _
 rw [sliceRange_back, fm_get fun i hi => by
  obtain ⟨k, hk, rfl⟩ := List.mem_map.mp hi
  have := List.mem_range.mp hk
  omega]
 apply List.ext_getElem
 ·simp
 ·intro i h1 h2
  simp only [List.length_map, List.length_range] at h1
  have : l.length - 1 - i < l.length := by omega
  simp [List.getElem_reverse, this]
theorem cells_eq {ns : List Int} {c : Nat → Int} (hc : c = cellOf ns) : V.lst (bases.zipIdx.map fun (q : Int × Nat) => V.int (q.1 + ((sel ns q.2).map fun x => x.fmod 1000000).sum)) = .lst [.int (c 0), .int (c 1), .int (c 2), .int (c 3), .int (c 4), .int (c 5)] := by
 subst hc; rfl
theorem rk5_get {w : List Int} (h : Rk5 w) : ∀ k, 0 ≤ w.getD k 0 ∧ w.getD k 0 < 5 := fun k => by
 rw [List.getD_eq_getElem?_getD]
 cases e : w[k]? with
 | none => decide
 | some x => exact h x (List.mem_of_getElem? e)
theorem neg_abs {a : Int} (h : a.natAbs < 2 ^ 64) : (-a).natAbs < 2 ^ 64 := by rwa [Int.natAbs_neg]
theorem stop_abs {ns : List Int} (hr : ∀ k, 0 ≤ ns.getD k 0 ∧ ns.getD k 0 < 5) (h : ns.length ≤ 5) : (startN ns ns.length + share ns).natAbs < 2 ^ 64 := by
 have h1 := start_small hr h
 have h2 := share_bound h
 omega
theorem whole_ne {k : Nat} (h : k ≤ 5) : wholeN k ≠ 0 := by have := whole_small h; lia
theorem whole_log {k : Nat} (h : k ≤ 5) : (wholeN k).natAbs.log2 < 9000 := by
 rcases below6 (Nat.lt_succ_of_le h) with rfl | rfl | rfl | rfl | rfl | rfl <;> decide
theorem itm3 {C : Ct} {n : Nat} {e : PySem.Expr} {H : List HObj} {u : V} {z : Nat → V} {k : Nat} (hu : u = .lst [z 0, z 1, z 2]) (hk : k < 3) (hp : Plain1 e := by exact fun q_ q_ => rfl) : Itm C n e u (.int (k : Int)) H (z k) := by
 subst hu
 exact Itm.lst Lsy.lst (by lia) (by lia) (by rw [Int.toNat_natCast]; exact three_at hk) hp
theorem painted_eq {z u v e : Int} (h : hueOf z u v = 64 * e) : V.lst [.flt (fl (hueOf z u v)), .flt (fl (hueOf z u v))] = .lst [.flt (fl (64 * e)), .flt (fl (64 * e))] := by rw [h]
theorem twin_itm {C : Ct} {n : Nat} {e : PySem.Expr} {H : List HObj} {x : V} {j : Nat} (hj : (j : Int) < 2) (hp : Plain1 e := by exact fun q_ q_ => rfl) : Itm C n e (.lst [x, x]) (.int (j : Int)) H x :=
 Itm.lst Lsy.lst (by lia) (by lia) (by
  rw [Int.toNat_natCast]
  rcases below2 (Int.ofNat_lt.mp hj) with rfl | rfl <;> rfl) hp
section
variable (d : DealD)
noncomputable def wordsL (k : Nat) : List Int := ((d.h k).us).map (rkI d.a d.b d.cc)
noncomputable def huesV (i : Nat) : List V := (List.range i).map fun k => V.flt (fl (64 * d.e k))
noncomputable def heardV (i : Nat) : List V := (List.range i).map fun k => V.lst ((wordsL d k).map V.int)
noncomputable def shelfL : Nat → List Str
 | 0 => []
 | i + 1 => shelfL i ++ (d.h i).row ++ [sEnd]
noncomputable def tabsH : Nat → List HObj
 | 0 => []
 | i + 1 => tabsH i ++ [.sem (ownA HX (6 + 2 * i + 1)), .list (pairsV ((d.h i).tab))]
noncomputable def lawH (i : Nat) (hs he : List V) (sh du : List Str) (ts : List HObj) : List HObj := [.sem (tabA 0 303 "_law_right.<locals>.<lambda>"), .sem (tabA 1 315 "_law_ranked.<locals>.<lambda>"), .list hs, .list he, .list (sh.map V.str), .list (du.map V.str)] ++ ts
noncomputable abbrev lawG (i : Nat) : List HObj := lawH i (huesV d i) (heardV d i) (shelfL d i) (shelfL d i) (tabsH d i)
theorem huesV_len (i : Nat) : (huesV d i).length = i := by simp [huesV]
theorem heardV_len (i : Nat) : (heardV d i).length = i := by simp [heardV]
theorem tabsH_len : ∀ i, (tabsH d i).length = 2 * i
 | 0 => rfl
 | i + 1 => by rw [tabsH, List.length_append, tabsH_len i]; rfl
end
section
variable {d : DealD}
theorem huesV_succ (i : Nat) : huesV d (i + 1) = huesV d i ++ [.flt (fl (64 * d.e i))] := by unfold huesV; rw [List.range_succ, List.map_append]; rfl
theorem heardV_succ (i : Nat) : heardV d (i + 1) = heardV d i ++ [.lst ((wordsL d i).map V.int)] := by unfold heardV; rw [List.range_succ, List.map_append]; rfl
theorem hues_at {i : Nat} : (huesV d (i + 1))[((i : Nat) : Int).toNat]? = some (.flt (fl (64 * d.e i))) := by
 rw [huesV_succ, Int.toNat_natCast, List.getElem?_append_right (by rw [huesV_len]; exact Nat.le_refl _), huesV_len, Nat.sub_self]; rfl
theorem lawH_len {i : Nat} {hs he : List V} {sh du : List Str} {ts : List HObj} : (lawH i hs he sh du ts).length = 6 + ts.length := by simp [lawH]; lia
theorem shelfL_le {P : Params} {c : Nat → Int} (q : Deal P c d) : ∀ i, i ≤ 3 → (shelfL d i).length ≤ 11 * i
 | 0, _ => Nat.le_refl _
 | i + 1, h => by
  have := shelfL_le q i (by exact Nat.le_of_lt (by assumption))
  have := (q.hd i (by assumption)).len
  unfold shelfL
  simp; lia
theorem shelfL_len {P : Params} {c : Nat → Int} (q : Deal P c d) : (shelfL d 3).length ≤ 100000 := by have := shelfL_le q 3 (by decide); lia
noncomputable abbrev lawG3 (d : DealD) (i : Nat) : List HObj := lawH i (huesV d (i + 1)) (heardV d i) (shelfL d (i + 1)) (shelfL d i) (tabsH d (i + 1))
theorem turn2 {i : Nat} : (lawG d i).set 2 (.list (huesV d i ++ [.flt (fl (64 * d.e i))])) = lawH i (huesV d (i + 1)) (heardV d i) (shelfL d i) (shelfL d i) (tabsH d i) := by
 rw [huesV_succ]; rfl
theorem heard_of (c1 : C1) {c : Nat → Int} (q : Deal c1.w.params c d) {i : Nat} (hk : i < 3) :
  Fn c1.ct 8 (.val (.ref 301)) [.flt (fl (64 * d.e i)), .lst (d.names.map V.str), .str (d.f ++ sSp ++ d.g), .ref 4] [] (lawH i (huesV d (i + 1)) (heardV d i) (shelfL d i) (shelfL d i) (tabsH d i)) (lawG3 d i) (.tup [.lst (((d.h i).us).map V.str), .sem (instA 254 (6 + 2 * i))]) := by
 have hd := q.deck.told
 have hph : Plain (d.f ++ sSp ++ d.g) := by
  obtain ⟨f1, f2⟩ := (good_plain (.inr (.inl hd.1))).1
  obtain ⟨g1, g2⟩ := (good_plain (.inr (.inl hd.2))).1
  obtain ⟨p1, p2⟩ := phrase_len q
  refine ⟨fun k hk => ?_, ?_⟩
  ·have hm : k ∈ cs (d.f ++ sSp ++ d.g) := Array.mem_toList_iff.mpr hk
   rw [cs_append, cs_append, cs_sp] at hm
   rcases List.mem_append.mp hm with hm | hm
   ·rcases List.mem_append.mp hm with hm | hm
    ·exact f1 k (Array.mem_toList_iff.mp hm)
    ·rw [List.mem_singleton.mp hm]; exact ⟨by decide, by decide⟩
   ·exact g1 k (Array.mem_toList_iff.mp hm)
  ·have l1 := hs_len (.inr (.inl hd.1))
   have l2 := hs_len (.inr (.inl hd.2))
   have l3 : sSp.length = 1 := by decide
   rw [length_app, length_app]
   lia
 have hlen := shelfL_le q i (by exact Nat.le_of_lt (by assumption))
 have h := fn_heard c1 (lawH i (huesV d (i + 1)) (heardV d i) (shelfL d i) (shelfL d i) (tabsH d i)) (js := 4) (pre := shelfL d i) (spot := d.e i) (names := d.names) (NV := .lst (d.names.map V.str)) (q.le i hk) (by rw [lawH_len]; lia) rfl (by lia) (fun K => Lsy.lst) (by
  obtain ⟨pp, _, Pm⟩ := q.deck.perm
  rw [Pm.length_eq]; rfl) (fun x hx => (q.deck.inO x hx).good q.deck.trio) hph
 rw [(q.hd i hk).hear] at h
 have e1 : (lawH i (huesV d (i + 1)) (heardV d i) (shelfL d i) (shelfL d i) (tabsH d i)).length = 6 + 2 * i := by rw [lawH_len, tabsH_len]
 unfold HdV at h
 rw [e1] at h
 exact h
theorem at_own {i : Nat} : (lawG3 d i)[6 + 2 * i]? = some (.sem (ownA HX (6 + 2 * i + 1))) := by
 show (_ ++ tabsH d (i + 1))[6 + 2 * i]? = _
 rw [List.getElem?_append_right (by simp)]
 show (tabsH d i ++ _)[_]? = _
 rw [List.getElem?_append_right (by rw [tabsH_len]; simp), tabsH_len]
 simp
theorem at_pairs {i : Nat} : (lawG3 d i)[6 + 2 * i + 1]? = some (.list (pairsV ((d.h i).tab))) := by
 show (_ ++ tabsH d (i + 1))[6 + 2 * i + 1]? = _
 rw [List.getElem?_append_right (by simp; lia)]
 show (tabsH d i ++ _)[_]? = _
 rw [List.getElem?_append_right (by rw [tabsH_len]; simp; lia), tabsH_len]
 have : 6 + 2 * i + 1 - [HObj.sem (tabA 0 303 "_law_right.<locals>.<lambda>"), .sem (tabA 1 315 "_law_ranked.<locals>.<lambda>"), .list (huesV d (i + 1)), .list (heardV d i), .list ((shelfL d (i + 1)).map V.str), .list ((shelfL d i).map V.str)].length - 2 * i = 1 := by simp; lia
 rw [this]; rfl
theorem aug_due {P : Params} {c : Nat → Int} (q : Deal P c d) {C : Ct} {n i : Nat} (hk : i < 3) : Aug C n .Add (.ref 5) (.lst ((d.h i).row.map V.str ++ [V.str ""])) (lawG3 d i) (lawH i (huesV d (i + 1)) (heardV d i) (shelfL d (i + 1)) (shelfL d (i + 1)) (tabsH d (i + 1))) (.ref 5) := by
 have h1 := shelfL_le q i (by lia)
 have h2 := (q.hd i hk).len
 have h := Aug.addL (C := C) (n := n) (i := 5) (l := (shelfL d i).map V.str) (l' := (d.h i).row.map V.str ++ [V.str ""]) (u := .lst ((d.h i).row.map V.str ++ [V.str ""])) (H := lawG3 d i) rfl Lsy.lst (by rw [datL_append, dat_strs]; rfl) (le_size (by simp; lia))
 have e : (lawG3 d i).set 5 (.list ((shelfL d i).map V.str ++ ((d.h i).row.map V.str ++ [V.str ""]))) = lawH i (huesV d (i + 1)) (heardV d i) (shelfL d (i + 1)) (shelfL d (i + 1)) (tabsH d (i + 1)) := by
  have : (shelfL d i).map V.str ++ ((d.h i).row.map V.str ++ [V.str ""]) = (shelfL d (i + 1)).map V.str := by
   show _ = (shelfL d i ++ (d.h i).row ++ [sEnd]).map V.str
   rw [List.map_append, List.map_append, List.append_assoc]; rfl
  rw [this]; rfl
 rw [e] at h
 exact h
theorem ne_same {α : Type} [DecidableEq α] {x y : α} (h : x = y) : (!decide (x = y)) = false := by rw [decide_eq_true h]; rfl
theorem dat_lst_ints (l : List Int) : V.dat (.lst (l.map V.int)) = true := dat_ints l
theorem turn6 {i : Nat} : (lawH i (huesV d (i + 1)) (heardV d i) (shelfL d (i + 1)) (shelfL d (i + 1)) (tabsH d (i + 1))).set 3 (.list (heardV d i ++ [.lst ((((d.h i).us).map (rkI d.a d.b d.cc)).map V.int)])) = lawG d (i + 1) := by
 show _ = lawH (i + 1) _ (heardV d (i + 1)) _ _ _
 rw [heardV_succ]; rfl
theorem small_abs {u : Int} (h : 0 ≤ u ∧ u ≤ 4) : u.natAbs < 2 ^ 64 := by lia
theorem hue_abs {e : Int} (h : 0 ≤ e ∧ e < 16777216) : e.natAbs < 2 ^ 64 := by lia
theorem ne_zero_dec (x : Int) : (x != 0) = decide (¬ x = 0) := by
 by_cases h : x = 0
 ·subst h; rfl
 ·rw [decide_eq_true h]; simp [h]
theorem spot_if {e x z : Int} (h : e = if x = 0 then 0 else z) : V.int e = bif decide (¬ x = 0) then .int z else .int 0 := by
 subst h
 by_cases q : x = 0
 ·simp [q]
 ·simp [q]
theorem in_lo {e : Int} {w : List Int} (h : In e w) : startN w w.length * 16777216 ≤ e * wholeN w.length := by have := h.1; unfold arcA at this; lia
theorem in_hi {e : Int} {w : List Int} (h : In e w) : e * wholeN w.length < (startN w w.length + share w) * 16777216 := by
 have := h.2; unfold arcA arcB at this; rw [Int.add_mul]; lia
theorem eq_ints {C : Ct} {n : Nat} {H : List HObj} {xs ys : List Int} (h : xs = ys) : Cmp C n .Eq (.lst (xs.map V.int)) (.lst (ys.map V.int)) H true := by
 have := Cmp.eqInts (C := C) (n := n) (H := H) (u := .lst (xs.map V.int)) (v := .lst (ys.map V.int)) (xs := xs) (ys := ys) Lsy.lst Lsy.lst
 rwa [decide_eq_true h] at this
theorem hue_fits {P : Params} {c : Nat → Int} (q : Deal P c d) (i : Nat) (h : i < 3) : Fits (64 * d.e i) := by
 have := q.le i h
 show (64 * d.e i).natAbs < 2 ^ 53
 lia
theorem law_at {i j : Nat} {P : OAsrt} (hj : j < 6) (h : (lawG d i)[j]? = some (HObj.sem P)) : (j = 0 ∧ P = tabA 0 303 "_law_right.<locals>.<lambda>") ∨ (j = 1 ∧ P = tabA 1 315 "_law_ranked.<locals>.<lambda>") := by
 rcases below6 hj with rfl | rfl | rfl | rfl | rfl | rfl
 ·cases h; exact .inl ⟨rfl, rfl⟩
 ·cases h; exact .inr ⟨rfl, rfl⟩
 ·cases h
 ·cases h
 ·cases h
 ·cases h
theorem cl_take (m : Nat) (h2 : 2 ≤ m) (h6 : m ≤ 6) : Cl ((lawG d 3).take m) := fun i P h => by
 have hl : ((lawG d 3).take m).length = m := by rw [List.length_take, lawH_len]; lia
 have hi : i < m := by rw [← hl]; exact (List.getElem?_eq_some_iff.mp h).1
 rw [List.getElem?_take_of_lt hi] at h
 rw [hl]
 rcases law_at (by exact Nat.lt_of_lt_of_le (by assumption) (by assumption)) h with ⟨_, rfl⟩ | ⟨_, rfl⟩
 ·show 1 ≤ m; exact Nat.le_of_lt (by assumption)
 ·show 2 ≤ m; omega
theorem ups5 : ∀ i P, (lawG d 3)[i]? = some (HObj.sem P) → i < 5 → Ups P := fun i P h hi => by
 rcases law_at (by exact Nat.lt_succ_of_lt (by assumption)) h with ⟨_, rfl⟩ | ⟨_, rfl⟩ <;> exact ups_tab
theorem law_le {i : Nat} {hs he : List V} {sh du : List Str} {ts : List HObj} : law0.length ≤ (lawH i hs he sh du ts).length := by rw [lawH_len]; show 2 ≤ _; lia
theorem law_le5 {i : Nat} {hs he : List V} {sh du : List Str} {ts : List HObj} : 5 ≤ (lawH i hs he sh du ts).length := by rw [lawH_len]; lia
theorem Es.eqH {C : Ct} {n : Nat} {env : Env} {σ σ1 : Loc} {H H1 H2 : List HObj} {st : PySem.Stmt} (h : Es C n env σ H st (.next σ1 H1)) (e : H1 = H2) : Es C n env σ H st (.next σ1 H2) := e ▸ h
theorem Co.eqr {C : Ct} {n : Nat} {cenv : Env} {target elt : PySem.Expr} {ifs : List PySem.Expr} {σ : Loc} {H : List HObj} {l rs rs' : List V} (h : Co C n cenv target ifs elt σ H l rs) (e : rs = rs') : Co C n cenv target ifs elt σ H l rs' := e ▸ h
theorem FnO.le {C : Ct} {m n : Nat} {f : V} {args : List V} {H H' : List HObj} {v : V} (h : FnO C m f args H H' v) (q : m ≤ n) : FnO C n f args H H' v := fun A outer w R' g xs R => h A outer w R' g xs (R.le q)
end
end
noncomputable def lawS (ns : List Int) (c : Nat → Int) (d : DealD) : Loc := [(Str.ofString "due", .ref 5), (Str.ofString "shelf", .ref 4), (Str.ofString "heard", .ref 3), (Str.ofString "hues", .ref 2), (Str.ofString "paints", .lst [.tup [.int (d.u 0), .int (d.v 0)], .tup [.int (d.u 1), .int (d.v 1)], .tup [.int (d.u 2), .int (d.v 2)]]), (Str.ofString "spots", .lst [.int (d.z 0), .int (d.z 1), .int (d.z 2)]), (Str.ofString "text", .lst (d.text.map V.int)), (Str.ofString "phrase", .str (d.f ++ sSp ++ d.g)), (Str.ofString "balls", .lst (d.names.map V.str)), (Str.ofString "order", .lst (([sEnd] ++ [d.a, d.b, d.cc] ++ [sP]).map V.str)), (Str.ofString "told", .lst (toldL.map V.str)), (Str.ofString "cells", .lst [.int (c 0), .int (c 1), .int (c 2), .int (c 3), .int (c 4), .int (c 5)])]
set_option tactic.hygienic true in
theorem law_core (c1 : C1) {ns : List Int} (hns : ns.length ≤ 100) {c : Nat → Int} (hc : c = cellOf ns) {d : DealD} (q : Deal c1.w.params c d) : FnL c1.ct.raw 9 (.val (.ref 325)) [.lst (ns.map V.int)] law0 := by
 have hcb := cell_bound hns
 rw [← hc] at hcb
 refine' fnL (ns := [Str.ofString "script"]) (vs := [.lst (ns.map V.int)]) ?ho ?hb ?hst ?hcd ?hns ?hnd ?hbind ?hbody
 walk_at "t_of"
 case hbind => exact bind1 fun q_ => Looks.of_pure rfl
 case hbody =>
  intro A env hS hA hfr h3; dsimp only at hS
  refine ExK.first (σ1 := [(Str.ofString "cells", .lst [.int (c 0), .int (c 1), .int (c 2), .int (c 3), .int (c 4), .int (c 5)]), (Str.ofString "script", .lst (ns.map V.int))]) (H1 := law0) ?_ ?_ (Nat.le_refl _)
  ·exact (Es0.assign (Ev0.eqv (Ev0.comp hS (SrcE0.eql (SrcE0.enum (g_enumerate _) (by boot_by_name) (kind_of hS rfl) (EvL.cons Ev.int (EvL.cons Ev.int (EvL.cons Ev.int (EvL.cons Ev.int (EvL.cons Ev.int EvL.nil))))) (by (first | (apply le_size; simp; omega) | exact Nat.le_of_ble_eq_true rfl | (simp; done) | (simp; omega)))) enum_bases) rfl (fun K => trivial) (by kernel_rfl) (fun cenv hC1 => (Co.map (f := fun (q : Int × Nat) => V.tup [.int (q.2 : Int), .int q.1]) (g := fun q => V.int (q.1 + ((sel ns q.2).map fun x => x.fmod 1000000).sum)) (l := bases.zipIdx) (fun q hq => ⟨_, (fun K => (Ast.tup (AsL.cons (Ast.name (.inl ⟨kind_of hC1 rfl, rfl⟩)) (AsL.cons (Ast.name (.inl ⟨kind_of hC1 rfl, rfl⟩)) AsL.nil)) locals_nonSeq)), (fun K => (Ev.bin (Ev.loc rfl) (Ev.call (gB (g_sum _) (kind_of hC1 rfl)) (EvA.args (EvL.cons (Ev.compS hC1 (SrcE.eql (SrcE.of (Ev.sliceL (Ev.sliceL (Ev.loc rfl) EvP.none (EvP.some Ev.int) EvP.none Lsy.lst (by decide) (le_size (by rw [List.length_map]; lia)) (fun q_ q_ => ⟨_, rfl⟩)) (EvP.some (Ev.loc rfl)) EvP.none (EvP.some Ev.int) Lsy.lst (by decide) (le_size (sel_len0 hns)) (fun q_ q_ => ⟨_, rfl⟩)) (Src.lst Lsy.lst)) (sel_map ns q.2)) rfl (fun K => Lsy.lst) (by kernel_rfl) (fun cenv hC2 => (Co.mapI (f := V.int) (g := fun x => x.fmod 1000000) (l := sel ns q.2) (fun x hx => ⟨_, (fun K => (Ast.name (.inl ⟨kind_of hC2 rfl, rfl⟩))), (fun K => (Ev.bin (Ev.loc rfl) (Ev.bin Ev.int Ev.int (Bin.pow (a := 10) (b := 6) (by decide) (by decide) (by decide))) (Bin.fmod (by decide)))), (by (first | exact fun q_ q_ h => h | exact sub_cons rfl | exact sub_two rfl rfl))⟩))) (le_size (sel_len1 hns)) (fun q_ q_ => rfl) (by first | exact Nat.le_refl _ | (first | (apply le_size; simp; omega) | exact Nat.le_of_ble_eq_true rfl | (simp; done) | (simp; omega)))) EvL.nil)) (by exact Fn.sum Lsy.lst (sel_sums hns) (sel_each ns _)) Kp.blt) Bin.addInt)), rfl, (by (first | exact fun q_ q_ h => h | exact sub_cons rfl | exact sub_two rfl rfl))⟩))) (le_size (by decide)) (fun q_ q_ => rfl) (by first | exact Nat.le_refl _ | (first | (apply le_size; simp; omega) | exact Nat.le_of_ble_eq_true rfl | (simp; done) | (simp; omega)))) (cells_eq hc)) (.inr (kind_of hS rfl)) (swaps_of hS (by intro _ _; (rename_i e he; cases e; dsimp only at he; subst he; rfl))))
  refine ExK.cons (σ1 := [(Str.ofString "told", .lst (toldL.map V.str)), (Str.ofString "cells", .lst [.int (c 0), .int (c 1), .int (c 2), .int (c 3), .int (c 4), .int (c 5)]), (Str.ofString "script", .lst (ns.map V.int))]) (H1 := law0) ?_ ?_ (Nat.le_refl _)
  ·exact (Es.assign (Ev.eqv (Ev.meth0 Ev.str (by exact Mth.split (le_size (by decide)) told_spaces) (Typ.str) rfl rfl) (congrArg (fun l => V.lst (l.map V.str)) told_words)) (il hS rfl) rfl)
  refine ExK.cons (σ1 := [(Str.ofString "second", .int ((d.i0 : Int) + 1 + d.d1)), (Str.ofString "told", .lst (toldL.map V.str)), (Str.ofString "cells", .lst [.int (c 0), .int (c 1), .int (c 2), .int (c 3), .int (c 4), .int (c 5)]), (Str.ofString "script", .lst (ns.map V.int))]) (H1 := law0) ?_ ?_ (Nat.le_refl _)
  ·exact (Es.assign (Ev.bin (Ev.bin (Ev.bin (Ev.sub (Ev.loc rfl) Ev.int (Itm.lst Lsy.lst (by decide) (by decide) rfl (fun q_ q_ => rfl))) Ev.int (Bin.fmodE (by decide) q.ei0)) Ev.int Bin.addInt) (Ev.bin (Ev.bin (Ev.sub (Ev.loc rfl) Ev.int (Itm.lst Lsy.lst (by decide) (by decide) rfl (fun q_ q_ => rfl))) Ev.int (Bin.fdiv (by decide) (by decide))) Ev.int (Bin.fmodE (by decide) q.ed1)) Bin.addInt) (il hS rfl) rfl)
  refine ExK.cons (σ1 := [(Str.ofString "signs", .lst ([d.s0, d.s1, d.s2].map V.str)), (Str.ofString "second", .int ((d.i0 : Int) + 1 + d.d1)), (Str.ofString "told", .lst (toldL.map V.str)), (Str.ofString "cells", .lst [.int (c 0), .int (c 1), .int (c 2), .int (c 3), .int (c 4), .int (c 5)]), (Str.ofString "script", .lst (ns.map V.int))]) (H1 := law0) ?_ ?_ (Nat.le_refl _)
  ·exact (Es.assign (Ev.lst (EvL.cons (Ev.sub (Ev.loc rfl) (Ev.bin (Ev.sub (Ev.loc rfl) Ev.int (Itm.lst Lsy.lst (by decide) (by decide) rfl (fun q_ q_ => rfl))) Ev.int (Bin.fmodE (by decide) q.ei0)) (told_itm q.h0 q.li.1)) (EvL.cons (Ev.sub (Ev.loc rfl) (Ev.bin (Ev.loc rfl) Ev.int (Bin.fmodE (by decide) q.ei1)) (told_itm q.h1 q.li.2.1)) (EvL.cons (Ev.sub (Ev.loc rfl) (Ev.bin (Ev.bin (Ev.bin (Ev.loc rfl) Ev.int Bin.addInt) (Ev.bin (Ev.bin (Ev.sub (Ev.loc rfl) Ev.int (Itm.lst Lsy.lst (by decide) (by decide) rfl (fun q_ q_ => rfl))) Ev.int (Bin.fdiv (by decide) (by decide))) Ev.int (Bin.fmodE (by decide) q.ed2)) Bin.addInt) Ev.int (Bin.fmodE (by decide) q.ei2)) (told_itm q.h2 q.li.2.2.1)) EvL.nil)))) (.inr (kind_of hS rfl)) rfl)
  refine ExK.cons (σ1 := [(Str.ofString "order", .lst (([sEnd] ++ [d.a, d.b, d.cc] ++ [sP]).map V.str)), (Str.ofString "signs", .lst ([d.s0, d.s1, d.s2].map V.str)), (Str.ofString "second", .int ((d.i0 : Int) + 1 + d.d1)), (Str.ofString "told", .lst (toldL.map V.str)), (Str.ofString "cells", .lst [.int (c 0), .int (c 1), .int (c 2), .int (c 3), .int (c 4), .int (c 5)]), (Str.ofString "script", .lst (ns.map V.int))]) (H1 := law0) ?_ ?_ (Nat.le_refl _)
  ·exact (Es.assign (Ev.eqv (Ev.bin (Ev.bin (Ev.lst (EvL.cons Ev.str EvL.nil)) (Ev.compS hS (SrcE.of (Ev.loc rfl) (Src.lst Lsy.lst)) rfl (fun K => Lsy.lst) (by kernel_rfl) (fun cenv hC3 => (Co.pickS (f := V.str) (p := fun x => decide (x ∈ [d.s0, d.s1, d.s2])) (g := fun x => x) (l := toldL) (fun x hx => ⟨_, (fun K => (Ast.name (.inl ⟨kind_of hC3 rfl, rfl⟩))), (fun K => (TstL.one (Tst.cmp (Ev.loc rfl) (Ev.loc rfl) (Cmp.inStrs (ns := [d.s0, d.s1, d.s2]) Lsy.lst)))), (fun q_ => (fun K => (Ev.loc rfl))), (by (first | exact fun q_ q_ h => h | exact sub_cons rfl | exact sub_two rfl rfl))⟩))) (le_size (by decide)) (fun q_ q_ => rfl) (by first | exact Nat.le_refl _ | (first | (apply le_size; simp; omega) | exact Nat.le_of_ble_eq_true rfl | (simp; done) | (simp; omega)))) (Bin.addL Lsy.lst Lsy.lst order_len1)) (Ev.lst (EvL.cons Ev.str EvL.nil)) (Bin.addL Lsy.lst Lsy.lst order_len2)) (order_eq q.hF)) (.inr (kind_of hS rfl)) rfl)
  refine ExK.cons (σ1 := [(Str.ofString "balls", .lst (d.names.map V.str)), (Str.ofString "order", .lst (([sEnd] ++ [d.a, d.b, d.cc] ++ [sP]).map V.str)), (Str.ofString "signs", .lst ([d.s0, d.s1, d.s2].map V.str)), (Str.ofString "second", .int ((d.i0 : Int) + 1 + d.d1)), (Str.ofString "told", .lst (toldL.map V.str)), (Str.ofString "cells", .lst [.int (c 0), .int (c 1), .int (c 2), .int (c 3), .int (c 4), .int (c 5)]), (Str.ofString "script", .lst (ns.map V.int))]) (H1 := law0) ?_ ?_ (Nat.le_refl _)
  ·exact (Es.assign (Ev.eqv (Ev.sliceL (Ev.sliceL (Ev.bin (Ev.lst (EvL.cons Ev.str (EvL.cons (Ev.sub (Ev.loc rfl) Ev.int (Itm.lst Lsy.lst (by decide) (by decide) rfl (fun q_ q_ => rfl))) (EvL.cons (Ev.sub Ev.str (Ev.bin (Ev.bin (Ev.sub (Ev.loc rfl) Ev.int (Itm.lst Lsy.lst (by decide) (by decide) rfl (fun q_ q_ => rfl))) Ev.int (Bin.fdiv (by decide) (by decide))) Ev.int (Bin.fmodE (by decide) q.ej)) (pp_itm q.hpp q.lj)) (EvL.cons (Ev.sub (Ev.loc rfl) Ev.int (Itm.lst Lsy.lst (by decide) (by decide) rfl (fun q_ q_ => rfl))) (EvL.cons (Ev.sub (Ev.loc rfl) Ev.int (Itm.lst Lsy.lst (by decide) (by decide) rfl (fun q_ q_ => rfl))) EvL.nil)))))) Ev.int (Bin.mulL Lsy.lst (by simp) (by decide) (by simp) (by decide))) (EvP.some (Ev.bin (Ev.bin (Ev.sub (Ev.loc rfl) Ev.int (Itm.lst Lsy.lst (by decide) (by decide) rfl (fun q_ q_ => rfl))) Ev.int (Bin.fdiv (by decide) (by decide))) Ev.int (Bin.fmodE (by decide) q.er))) EvP.none EvP.none Lsy.lst (by decide) (le_size (by simp)) (fun q_ q_ => ⟨_, rfl⟩)) EvP.none (EvP.some Ev.int) EvP.none Lsy.lst (by decide) (le_size (balls_len q.hn)) (fun q_ q_ => ⟨_, rfl⟩)) (balls_eq q.hn)) (il hS rfl) rfl)
  refine ExK.cons (σ1 := [(Str.ofString "phrase", .str (d.f ++ sSp ++ d.g)), (Str.ofString "balls", .lst (d.names.map V.str)), (Str.ofString "order", .lst (([sEnd] ++ [d.a, d.b, d.cc] ++ [sP]).map V.str)), (Str.ofString "signs", .lst ([d.s0, d.s1, d.s2].map V.str)), (Str.ofString "second", .int ((d.i0 : Int) + 1 + d.d1)), (Str.ofString "told", .lst (toldL.map V.str)), (Str.ofString "cells", .lst [.int (c 0), .int (c 1), .int (c 2), .int (c 3), .int (c 4), .int (c 5)]), (Str.ofString "script", .lst (ns.map V.int))]) (H1 := law0) ?_ ?_ (Nat.le_refl _)
  ·exact (Es.assign (Ev.bin (Ev.bin (Ev.sub (Ev.loc rfl) (Ev.bin Ev.int (Ev.bin (Ev.sub (Ev.loc rfl) Ev.int (Itm.lst Lsy.lst (by decide) (by decide) rfl (fun q_ q_ => rfl))) Ev.int (Bin.fmodE (by decide) q.ej1)) Bin.addInt) (order_itm q.hf q.lj1)) Ev.str (Bin.addS (le_size (phrase_len q).1))) (Ev.sub (Ev.loc rfl) (Ev.bin Ev.int (Ev.bin (Ev.bin (Ev.sub (Ev.loc rfl) Ev.int (Itm.lst Lsy.lst (by decide) (by decide) rfl (fun q_ q_ => rfl))) Ev.int (Bin.fdiv (by decide) (by decide))) Ev.int (Bin.fmodE (by decide) q.ej2)) Bin.addInt) (order_itm q.hg q.lj2)) (Bin.addS (le_size (phrase_len q).2))) (il hS rfl) rfl)
  refine ExK.cons (σ1 := [(Str.ofString "text", .lst (d.text.map V.int)), (Str.ofString "phrase", .str (d.f ++ sSp ++ d.g)), (Str.ofString "balls", .lst (d.names.map V.str)), (Str.ofString "order", .lst (([sEnd] ++ [d.a, d.b, d.cc] ++ [sP]).map V.str)), (Str.ofString "signs", .lst ([d.s0, d.s1, d.s2].map V.str)), (Str.ofString "second", .int ((d.i0 : Int) + 1 + d.d1)), (Str.ofString "told", .lst (toldL.map V.str)), (Str.ofString "cells", .lst [.int (c 0), .int (c 1), .int (c 2), .int (c 3), .int (c 4), .int (c 5)]), (Str.ofString "script", .lst (ns.map V.int))]) (H1 := law0) ?_ ?_ (Nat.le_refl _)
  ·exact (Es.compS hS (SrcE.eql (SrcE.of (Ev.call (gB (g_range _) (kind_of hS rfl)) (EvA.args (EvL.cons (Ev.bin (Ev.sub (Ev.loc rfl) Ev.int (Itm.lst Lsy.lst (by decide) (by decide) rfl (fun q_ q_ => rfl))) Ev.int (Bin.fmodE (by decide) q.em)) EvL.nil)) (by exact Fn.range1) Kp.typ) (Src.rng (by decide) (by decide) (by exact Int.ofNat_nonneg _) (by have := q.lm; lia))) (rng_nat d.m)) rfl (fun K => trivial) (by kernel_rfl) (fun cenv hC4 => (Co.eqr (rs' := d.text.map V.int) (Co.mapI (f := fun (k : Nat) => V.int (k : Int)) (g := fun (k : Nat) => 1 + (((c 1).fdiv 5).fdiv (4 ^ k)).fmod 4) (l := List.range d.m) (fun k hk => ⟨_, (fun K => (Ast.name (.inl ⟨kind_of hC4 rfl, rfl⟩))), (fun K => (Ev.bin Ev.int (Ev.bin (Ev.bin (Ev.bin (Ev.sub (Ev.loc rfl) Ev.int (Itm.lst Lsy.lst (by decide) (by decide) rfl (fun q_ q_ => rfl))) Ev.int (Bin.fdiv (by decide) (by decide))) (Ev.bin Ev.int (Ev.loc rfl) (pow4 (Nat.lt_trans (List.mem_range.mp hk) q.lm))) (Bin.fdiv (pow4_ne _) (pow4_log (Nat.lt_trans (List.mem_range.mp hk) q.lm)))) Ev.int (Bin.fmod (by decide))) Bin.addInt)), (by (first | exact fun q_ q_ h => h | exact sub_cons rfl | exact sub_two rfl rfl))⟩)) (congrArg (List.map V.int) q.ht.symm))) (le_size (by have := q.lm; simp; lia)) (fun q_ q_ => rfl) (by first | exact Nat.le_refl _ | (first | (apply le_size; simp; omega) | exact Nat.le_of_ble_eq_true rfl | (simp; done) | (simp; omega))) (il hS rfl) (by intro _ _; (rename_i e he; cases e; dsimp only at he; subst he; rfl)))
  refine ExK.cons (σ1 := [(Str.ofString "whole", .int (wholeN (d.text ++ [0]).length)), (Str.ofString "stop", .int (startN (d.text ++ [0]) (d.text ++ [0]).length + share (d.text ++ [0]))), (Str.ofString "start", .int (startN (d.text ++ [0]) (d.text ++ [0]).length)), (Str.ofString "text", .lst (d.text.map V.int)), (Str.ofString "phrase", .str (d.f ++ sSp ++ d.g)), (Str.ofString "balls", .lst (d.names.map V.str)), (Str.ofString "order", .lst (([sEnd] ++ [d.a, d.b, d.cc] ++ [sP]).map V.str)), (Str.ofString "signs", .lst ([d.s0, d.s1, d.s2].map V.str)), (Str.ofString "second", .int ((d.i0 : Int) + 1 + d.d1)), (Str.ofString "told", .lst (toldL.map V.str)), (Str.ofString "cells", .lst [.int (c 0), .int (c 1), .int (c 2), .int (c 3), .int (c 4), .int (c 5)]), (Str.ofString "script", .lst (ns.map V.int))]) (H1 := law0) ?_ ?_ (Nat.le_refl _)
  ·exact (Es.assignT (Ev.call (gV (g_law_arc _) (kind_of hS rfl)) (EvA.args (EvL.cons (Ev.eqv (Ev.bin (Ev.loc rfl) (Ev.lst (EvL.cons Ev.int EvL.nil)) (Bin.addL Lsy.lst Lsy.lst (le_size (text_len q)))) (snoc_eq _)) EvL.nil)) (by exact fn_arc c1 _ Lsy.lst (word_len q).1 (rk5_get (word_rk q).1)) (kp_law_arc _)) (AsL.cons (Ast.name (.inr ⟨(il hS rfl), rfl⟩)) (AsL.cons (Ast.name (.inr ⟨(il hS rfl), rfl⟩)) (AsL.cons (Ast.name (.inr ⟨(il hS rfl), rfl⟩)) AsL.nil))) (sw_of hS (by intro e he; cases e; dsimp only at he; subst he; rfl)) (ss_of hS (by intro e he; cases e; dsimp only at he; subst he; rfl)))
  refine ExK.cons (σ1 := [(Str.ofString "parts", .int (wholeN (d.text.reverse ++ [0]).length)), (Str.ofString "end", .int (startN (d.text.reverse ++ [0]) (d.text.reverse ++ [0]).length + share (d.text.reverse ++ [0]))), (Str.ofString "begin", .int (startN (d.text.reverse ++ [0]) (d.text.reverse ++ [0]).length)), (Str.ofString "whole", .int (wholeN (d.text ++ [0]).length)), (Str.ofString "stop", .int (startN (d.text ++ [0]) (d.text ++ [0]).length + share (d.text ++ [0]))), (Str.ofString "start", .int (startN (d.text ++ [0]) (d.text ++ [0]).length)), (Str.ofString "text", .lst (d.text.map V.int)), (Str.ofString "phrase", .str (d.f ++ sSp ++ d.g)), (Str.ofString "balls", .lst (d.names.map V.str)), (Str.ofString "order", .lst (([sEnd] ++ [d.a, d.b, d.cc] ++ [sP]).map V.str)), (Str.ofString "signs", .lst ([d.s0, d.s1, d.s2].map V.str)), (Str.ofString "second", .int ((d.i0 : Int) + 1 + d.d1)), (Str.ofString "told", .lst (toldL.map V.str)), (Str.ofString "cells", .lst [.int (c 0), .int (c 1), .int (c 2), .int (c 3), .int (c 4), .int (c 5)]), (Str.ofString "script", .lst (ns.map V.int))]) (H1 := law0) ?_ ?_ (Nat.le_refl _)
  ·exact (Es.assignT (Ev.call (gV (g_law_arc _) (kind_of hS rfl)) (EvA.args (EvL.cons (Ev.eqv (Ev.bin (Ev.eqv (Ev.sliceL (Ev.loc rfl) EvP.none EvP.none (EvP.some (Ev.una Ev.int Una.neg)) Lsy.lst (by decide) (le_size (by rw [List.length_map]; have := text_le q; lia)) (fun q_ q_ => ⟨_, rfl⟩)) (congrArg V.lst (pick_back _))) (Ev.lst (EvL.cons Ev.int EvL.nil)) (Bin.addL Lsy.lst Lsy.lst (le_size (rev_len q)))) (rev_eq _)) EvL.nil)) (by exact fn_arc c1 _ Lsy.lst (word_len q).2 (rk5_get (word_rk q).2)) (kp_law_arc _)) (AsL.cons (Ast.name (.inr ⟨(il hS rfl), rfl⟩)) (AsL.cons (Ast.name (.inr ⟨(il hS rfl), rfl⟩)) (AsL.cons (Ast.name (.inr ⟨(il hS rfl), rfl⟩)) AsL.nil))) (sw_of hS (by intro e he; cases e; dsimp only at he; subst he; rfl)) (ss_of hS (by intro e he; cases e; dsimp only at he; subst he; rfl)))
  refine ExK.cons (σ1 := [(Str.ofString "spots", .lst [.int (d.z 0), .int (d.z 1), .int (d.z 2)]), (Str.ofString "parts", .int (wholeN (d.text.reverse ++ [0]).length)), (Str.ofString "end", .int (startN (d.text.reverse ++ [0]) (d.text.reverse ++ [0]).length + share (d.text.reverse ++ [0]))), (Str.ofString "begin", .int (startN (d.text.reverse ++ [0]) (d.text.reverse ++ [0]).length)), (Str.ofString "whole", .int (wholeN (d.text ++ [0]).length)), (Str.ofString "stop", .int (startN (d.text ++ [0]) (d.text ++ [0]).length + share (d.text ++ [0]))), (Str.ofString "start", .int (startN (d.text ++ [0]) (d.text ++ [0]).length)), (Str.ofString "text", .lst (d.text.map V.int)), (Str.ofString "phrase", .str (d.f ++ sSp ++ d.g)), (Str.ofString "balls", .lst (d.names.map V.str)), (Str.ofString "order", .lst (([sEnd] ++ [d.a, d.b, d.cc] ++ [sP]).map V.str)), (Str.ofString "signs", .lst ([d.s0, d.s1, d.s2].map V.str)), (Str.ofString "second", .int ((d.i0 : Int) + 1 + d.d1)), (Str.ofString "told", .lst (toldL.map V.str)), (Str.ofString "cells", .lst [.int (c 0), .int (c 1), .int (c 2), .int (c 3), .int (c 4), .int (c 5)]), (Str.ofString "script", .lst (ns.map V.int))]) (H1 := law0) ?_ ?_ (Nat.le_refl _)
  ·exact (Es.assign (Ev.lst (EvL.cons (Ev.eqv (Ev.una (Ev.bin (Ev.bin (Ev.una (Ev.loc rfl) Una.neg) (Ev.bin Ev.int Ev.int pow24) (Bin.mul (mulOk (neg_abs (start_abs (rk5_get (word_rk q).1) (word_len q).1))))) (Ev.loc rfl) (Bin.fdiv (whole_ne (word_len q).1) (whole_log (word_len q).1))) Una.neg) (congrArg V.int q.ez0)) (EvL.cons (Ev.bin (Ev.bin (Ev.bin (Ev.sub (Ev.loc rfl) Ev.int (Itm.lst Lsy.lst (by decide) (by decide) rfl (fun q_ q_ => rfl))) Ev.int (Bin.mul (mulOk (Nat.lt_of_le_of_lt (hcb 3 (by decide)) (by decide))))) (Ev.sub (Ev.loc rfl) Ev.int (Itm.lst Lsy.lst (by decide) (by decide) rfl (fun q_ q_ => rfl))) Bin.addInt) (Ev.bin Ev.int Ev.int pow24) (Bin.fmodE (by decide) q.ez1)) (EvL.cons (Ev.bin (Ev.una (Ev.bin (Ev.bin (Ev.una (Ev.loc rfl) Una.neg) (Ev.bin Ev.int Ev.int pow24) (Bin.mul (mulOk (neg_abs (stop_abs (rk5_get (word_rk q).2) (word_len q).2))))) (Ev.loc rfl) (Bin.fdiv (whole_ne (word_len q).2) (whole_log (word_len q).2))) Una.neg) Ev.int (Bin.subE q.ez2)) EvL.nil)))) (il hS rfl) rfl)
  refine ExK.cons (σ1 := [(Str.ofString "paints", .lst [.tup [.int (d.u 0), .int (d.v 0)], .tup [.int (d.u 1), .int (d.v 1)], .tup [.int (d.u 2), .int (d.v 2)]]), (Str.ofString "spots", .lst [.int (d.z 0), .int (d.z 1), .int (d.z 2)]), (Str.ofString "parts", .int (wholeN (d.text.reverse ++ [0]).length)), (Str.ofString "end", .int (startN (d.text.reverse ++ [0]) (d.text.reverse ++ [0]).length + share (d.text.reverse ++ [0]))), (Str.ofString "begin", .int (startN (d.text.reverse ++ [0]) (d.text.reverse ++ [0]).length)), (Str.ofString "whole", .int (wholeN (d.text ++ [0]).length)), (Str.ofString "stop", .int (startN (d.text ++ [0]) (d.text ++ [0]).length + share (d.text ++ [0]))), (Str.ofString "start", .int (startN (d.text ++ [0]) (d.text ++ [0]).length)), (Str.ofString "text", .lst (d.text.map V.int)), (Str.ofString "phrase", .str (d.f ++ sSp ++ d.g)), (Str.ofString "balls", .lst (d.names.map V.str)), (Str.ofString "order", .lst (([sEnd] ++ [d.a, d.b, d.cc] ++ [sP]).map V.str)), (Str.ofString "signs", .lst ([d.s0, d.s1, d.s2].map V.str)), (Str.ofString "second", .int ((d.i0 : Int) + 1 + d.d1)), (Str.ofString "told", .lst (toldL.map V.str)), (Str.ofString "cells", .lst [.int (c 0), .int (c 1), .int (c 2), .int (c 3), .int (c 4), .int (c 5)]), (Str.ofString "script", .lst (ns.map V.int))]) (H1 := law0) ?_ ?_ (Nat.le_refl _)
  ·exact (Es.assign (Ev.lst (EvL.cons (Ev.tup (EvL.cons (Ev.bin Ev.int (Ev.bin (Ev.sub (Ev.loc rfl) Ev.int (Itm.lst Lsy.lst (by decide) (by decide) rfl (fun q_ q_ => rfl))) Ev.int (Bin.fmod (by decide))) (Bin.addE q.eu0)) (EvL.cons (Ev.bin Ev.int (Ev.bin (Ev.bin (Ev.sub (Ev.loc rfl) Ev.int (Itm.lst Lsy.lst (by decide) (by decide) rfl (fun q_ q_ => rfl))) Ev.int (Bin.fdiv (by decide) (by decide))) Ev.int (Bin.fmod (by decide))) (Bin.addE q.ev0)) EvL.nil))) (EvL.cons (Ev.tup (EvL.cons (Ev.bin (Ev.bin (Ev.sub (Ev.loc rfl) Ev.int (Itm.lst Lsy.lst (by decide) (by decide) rfl (fun q_ q_ => rfl))) Ev.int (Bin.fdiv (by decide) (by decide))) Ev.int (Bin.fmodE (by decide) q.eu1)) (EvL.cons (Ev.bin (Ev.bin (Ev.sub (Ev.loc rfl) Ev.int (Itm.lst Lsy.lst (by decide) (by decide) rfl (fun q_ q_ => rfl))) Ev.int (Bin.fdiv (by decide) (by decide))) Ev.int (Bin.fmodE (by decide) q.ev1)) EvL.nil))) (EvL.cons (Ev.tup (EvL.cons (Ev.bin Ev.int (Ev.bin (Ev.bin (Ev.sub (Ev.loc rfl) Ev.int (Itm.lst Lsy.lst (by decide) (by decide) rfl (fun q_ q_ => rfl))) Ev.int (Bin.fdiv (by decide) (by decide))) Ev.int (Bin.fmod (by decide))) (Bin.addE q.eu2)) (EvL.cons (Ev.bin Ev.int (Ev.bin (Ev.bin (Ev.sub (Ev.loc rfl) Ev.int (Itm.lst Lsy.lst (by decide) (by decide) rfl (fun q_ q_ => rfl))) Ev.int (Bin.fdiv (by decide) (by decide))) Ev.int (Bin.fmod (by decide))) (Bin.addE q.ev2)) EvL.nil))) EvL.nil)))) (il hS rfl) rfl)
  refine ExK.cons (σ1 := [(Str.ofString "due", .ref 5), (Str.ofString "shelf", .ref 4), (Str.ofString "heard", .ref 3), (Str.ofString "hues", .ref 2), (Str.ofString "paints", .lst [.tup [.int (d.u 0), .int (d.v 0)], .tup [.int (d.u 1), .int (d.v 1)], .tup [.int (d.u 2), .int (d.v 2)]]), (Str.ofString "spots", .lst [.int (d.z 0), .int (d.z 1), .int (d.z 2)]), (Str.ofString "parts", .int (wholeN (d.text.reverse ++ [0]).length)), (Str.ofString "end", .int (startN (d.text.reverse ++ [0]) (d.text.reverse ++ [0]).length + share (d.text.reverse ++ [0]))), (Str.ofString "begin", .int (startN (d.text.reverse ++ [0]) (d.text.reverse ++ [0]).length)), (Str.ofString "whole", .int (wholeN (d.text ++ [0]).length)), (Str.ofString "stop", .int (startN (d.text ++ [0]) (d.text ++ [0]).length + share (d.text ++ [0]))), (Str.ofString "start", .int (startN (d.text ++ [0]) (d.text ++ [0]).length)), (Str.ofString "text", .lst (d.text.map V.int)), (Str.ofString "phrase", .str (d.f ++ sSp ++ d.g)), (Str.ofString "balls", .lst (d.names.map V.str)), (Str.ofString "order", .lst (([sEnd] ++ [d.a, d.b, d.cc] ++ [sP]).map V.str)), (Str.ofString "signs", .lst ([d.s0, d.s1, d.s2].map V.str)), (Str.ofString "second", .int ((d.i0 : Int) + 1 + d.d1)), (Str.ofString "told", .lst (toldL.map V.str)), (Str.ofString "cells", .lst [.int (c 0), .int (c 1), .int (c 2), .int (c 3), .int (c 4), .int (c 5)]), (Str.ofString "script", .lst (ns.map V.int))]) (H1 := lawG d 0) ?_ ?_ (Nat.le_refl _)
  ·exact (Es.assignT (Ev.tup (EvL.cons (Ev.lstAt (i := 2) EvL.nil (by (first | (apply le_size; simp; omega) | exact Nat.le_of_ble_eq_true rfl | (simp; done) | (simp; omega))) rfl rfl) (EvL.cons (Ev.lstAt (i := 3) EvL.nil (by (first | (apply le_size; simp; omega) | exact Nat.le_of_ble_eq_true rfl | (simp; done) | (simp; omega))) rfl rfl) (EvL.cons (Ev.lstAt (i := 4) EvL.nil (by (first | (apply le_size; simp; omega) | exact Nat.le_of_ble_eq_true rfl | (simp; done) | (simp; omega))) rfl rfl) (EvL.cons (Ev.lstAt (i := 5) EvL.nil (by (first | (apply le_size; simp; omega) | exact Nat.le_of_ble_eq_true rfl | (simp; done) | (simp; omega))) rfl rfl) EvL.nil))))) (AsL.cons (Ast.name (.inr ⟨(il hS rfl), rfl⟩)) (AsL.cons (Ast.name (.inr ⟨(il hS rfl), rfl⟩)) (AsL.cons (Ast.name (.inr ⟨(il hS rfl), rfl⟩)) (AsL.cons (Ast.name (.inr ⟨(il hS rfl), rfl⟩)) AsL.nil)))) (sw_of hS (by intro e he; cases e; dsimp only at he; subst he; rfl)) (ss_of hS (by intro e he; cases e; dsimp only at he; subst he; rfl)))
  refine ExK.cons (σ1 := lawS ns c d) (H1 := lawG d 3) (Es.for (SrcE.of (Ev.call (gB (g_range _) (kind_of hS rfl)) (EvA.args (EvL.cons Ev.int EvL.nil)) (by exact Fn.range1) Kp.typ) (Src.rng (by decide) (by decide) (by decide) (by decide))) rfl (Fo.runsN 3 (by rw [rngL_len]; rfl) (fun q_ => lawS ns c d) (fun i => lawG d i) (subs_cons rfl (subs_cons rfl (subs_cons rfl (subs_cons rfl (subs_cons rfl (subs_cons rfl (subs_cons rfl (subs_cons rfl (subs_cons rfl (subs_cons rfl (subs_cons rfl (subs_cons rfl subs_nil)))))))))))) rfl (fun q_ q_ => trivial) (fun i v hv => ?turn)) (fun q_ q_ => rfl)) ?_ law_le
  case turn =>
   obtain ⟨hk, rfl⟩ := rng3 hv
   obtain ⟨n, en, ln, _⟩ := fmodN (c 2 + (i : Int)) 2 (by decide)
   refine Turn.mk (Ast.name (.inr ⟨(il hS rfl), rfl⟩)) (Ex.cons (Es.assign (Ev.eqv (Ev.call (gV (g_law_painted _) (kind_of hS rfl)) (EvA.args (EvL.cons (Ev.sub (Ev.loc rfl) (Ev.loc rfl) (itm3 (z := fun k => V.int (d.z k)) rfl hk)) (EvL.cons (Ev.bin (Ev.bin (Ev.sub (Ev.loc rfl) Ev.int (Itm.lst Lsy.lst (by decide) (by decide) rfl (fun q_ q_ => rfl))) (Ev.loc rfl) Bin.addInt) Ev.int (Bin.fmodE (by decide) (q.et _ hk).1)) (EvL.cons (Ev.sub (Ev.sub (Ev.loc rfl) (Ev.loc rfl) (itm3 (z := fun k => V.tup [.int (d.u k), .int (d.v k)]) rfl hk)) Ev.int (Itm.tup (j := 0) (by decide) (by decide) rfl rfl (fun q_ q_ => rfl))) (EvL.cons (Ev.sub (Ev.sub (Ev.loc rfl) (Ev.loc rfl) (itm3 (z := fun k => V.tup [.int (d.u k), .int (d.v k)]) rfl hk)) Ev.int (Itm.tup (j := 1) (by decide) (by decide) rfl rfl (fun q_ q_ => rfl))) EvL.nil))))) (by exact (fn_painted c1 _ (q.lz _ hk) (q.et _ hk).2 (q.lu _ hk) (q.lv _ hk)).le (by decide)) (kp_law_painted _)) (painted_eq (q.ee _ hk))) (il hS rfl) rfl) (Ex.cons (Es.ifFb (Tst.cmp (Ev.loc rfl) (Ev.lst EvL.nil) (Cmp.eqLlen Lsy.lst Lsy.lst (by simp))) rfl Ex.nil)
    (Ex.cons (Es.eqH (Es.expr (Ev.meth (Ev.loc rfl) (EvL.cons (Ev.sub (Ev.loc rfl) (Ev.bin (Ev.bin (Ev.sub (Ev.loc rfl) Ev.int (Itm.lst Lsy.lst (by decide) (by decide) rfl (fun q_ q_ => rfl))) (Ev.loc rfl) Bin.addInt) Ev.int (Bin.fmodE (by decide) en)) (twin_itm ln)) EvL.nil) (by exact Mth.append (i := 2) (l := huesV d i) rfl rfl (le_size (by rw [huesV_len]; lia))) (Typ.lst (Lsy.ref (l := huesV d i) rfl)) rfl rfl rfl rfl (fun q_ q_ q_ q_ q_ h => Calls.evalArgs_plain h)) (in_of hS (by intro e he; cases e; dsimp only at he; subst he; rfl)) rfl) (turn2)) (Ex.cons (Es.eqH (Es.assignT (Ev.call (gV (g_law_heard _) (kind_of hS rfl)) (EvA.args (EvL.cons (Ev.sub (Ev.loc rfl) (Ev.loc rfl) (Itm.lst (Lsy.ref (l := huesV d (i + 1)) rfl) (by exact Int.ofNat_nonneg _) (by lia) (hues_at) (fun q_ q_ => rfl))) (EvL.cons (Ev.loc rfl) (EvL.cons (Ev.loc rfl) (EvL.cons (Ev.loc rfl) EvL.nil))))) (by exact heard_of c1 q hk) (kp_law_heard _)) (AsL.cons (Ast.name (.inr ⟨(il hS rfl), rfl⟩)) (AsL.cons (Ast.name (.inr ⟨(il hS rfl), rfl⟩)) AsL.nil)) (sw_of hS (by intro e he; cases e; dsimp only at he; subst he; rfl)) (ss_of hS (by intro e he; cases e; dsimp only at he; subst he; rfl))) rfl) (Ex.cons (Es.eqH (Es.aug rfl (by decide) (Ev.bin (Ev.call (gV (g_law_right _) (kind_of hS rfl)) (EvA.args (EvL.cons (Ev.loc rfl) (EvL.cons (Ev.loc rfl) (EvL.cons (Ev.loc rfl) (EvL.cons (Ev.loc rfl) (EvL.cons (Ev.loc rfl) (EvL.cons (Ev.loc rfl) EvL.nil))))))) (by exact (fn_right c1 _ (t := 0) (j := 6 + 2 * i) (i := 6 + 2 * i + 1) rfl (at_own) (at_pairs) ((q.hd _ hk).right)).le (by decide)) (kp_law_right _)) (Ev.lst (EvL.cons Ev.str EvL.nil)) (Bin.addL Lsy.lst Lsy.lst (le_size (by have := (q.hd _ hk).len; simp; lia)))) (aug_due q hk) (il hS rfl)) rfl) (Ex.cons (Es.ifFb (Tst.cmp (Ev.loc rfl) (Ev.loc rfl) (Cmp.neStrs (xs := shelfL d (i + 1)) (ys := shelfL d (i + 1)) (.ref rfl) (.ref rfl))) (ne_same rfl) Ex.nil) (Ex.one (Es.eqH (Es.expr (Ev.meth (Ev.loc rfl) (EvL.cons (Ev.compS hS (SrcE.of (Ev.loc rfl) (Src.lst Lsy.lst)) rfl (fun K => Lsy.lst) (by kernel_rfl) (fun cenv hC5 => (Co.mapI (f := V.str) (g := rkI d.a d.b d.cc) (l := (d.h i).us) (fun x hx => ⟨_, (fun K => (Ast.name (.inl ⟨kind_of hC5 rfl, rfl⟩))), (fun K => (Ev.meth (Ev.loc rfl) (EvL.cons (Ev.meth0 (Ev.loc rfl) (by exact Mth.lower (good_plain (((q.hd _ hk).right).good x hx)).1.2) (Typ.str) rfl rfl) EvL.nil) (by exact Mth.index (j := rkO d.a d.b d.cc x) Lsy.lst (((q.hd _ hk).right).rkOk x hx).1 (((q.hd _ hk).right).rkOk x hx).2 (by simp)) (Typ.lst Lsy.lst) rfl rfl rfl rfl (fun q_ q_ q_ q_ q_ h => Calls.evalArgs_plain h))), (by (first | exact fun q_ q_ h => h | exact sub_cons rfl | exact sub_two rfl rfl))⟩))) (le_size (by have := ((q.hd _ hk).right).lr; simp; lia)) (fun q_ q_ => rfl) (by first | exact Nat.le_refl _ | (first | (apply le_size; simp; omega) | exact Nat.le_of_ble_eq_true rfl | (simp; done) | (simp; omega)))) EvL.nil) (by exact Mth.append (i := 3) (l := heardV d i) rfl (dat_lst_ints _) (le_size (by rw [heardV_len]; lia))) (Typ.lst (Lsy.ref (l := heardV d i) rfl)) rfl rfl rfl rfl (fun q_ q_ q_ q_ q_ h => Calls.evalArgs_plain h)) (in_of hS (by intro e he; cases e; dsimp only at he; subst he; rfl)) rfl) (turn6))))))))) (subs_cons rfl (subs_cons rfl (subs_cons rfl (subs_cons rfl (subs_cons rfl (subs_cons rfl (subs_cons rfl (subs_cons rfl (subs_cons rfl (subs_cons rfl (subs_cons rfl (subs_cons rfl subs_nil))))))))))))
  refine ExK.cons (H1 := lawG d 3) (Es.assignT (Ev.call (gV (g_law_arc _) (kind_of hS rfl)) (EvA.args (EvL.cons (Ev.sub (Ev.loc rfl) Ev.int (Itm.lst (Lsy.ref (l := heardV d 3) rfl) (by decide) (by decide) rfl (fun q_ q_ => rfl))) EvL.nil)) (by exact fn_arc c1 _ Lsy.lst ((q.hd 1 (by decide)).whole).1 (rk5_get ((q.hd 1 (by decide)).r5))) (kp_law_arc _)) (AsL.cons (Ast.name (.inr ⟨(il hS rfl), rfl⟩)) (AsL.cons (Ast.name (.inr ⟨(il hS rfl), rfl⟩)) (AsL.cons (Ast.name (.inr ⟨(il hS rfl), rfl⟩)) AsL.nil))) (sw_of hS (by intro e he; cases e; dsimp only at he; subst he; rfl)) (ss_of hS (by intro e he; cases e; dsimp only at he; subst he; rfl))) ?_ law_le
  refine ExK.cons (H1 := lawG d 3) (Es.assign (Ev.eqv (Ev.cmp2 (Ev.bin (Ev.loc rfl) (Ev.bin Ev.int Ev.int pow24) (Bin.mul (mulOk (start_abs (rk5_get ((q.hd 1 (by decide)).r5)) ((q.hd 1 (by decide)).whole).1)))) (Ev.bin (Ev.ifB (Tst.eqb (Tst.val (Ev.bin (Ev.sub (Ev.sub (Ev.loc rfl) Ev.int (Itm.lst Lsy.lst (by decide) (by decide) rfl (fun q_ q_ => rfl))) Ev.int (Itm.tup (j := 0) (by decide) (by decide) rfl rfl (fun q_ q_ => rfl))) (Ev.sub (Ev.sub (Ev.loc rfl) Ev.int (Itm.lst Lsy.lst (by decide) (by decide) rfl (fun q_ q_ => rfl))) Ev.int (Itm.tup (j := 1) (by decide) (by decide) rfl rfl (fun q_ q_ => rfl))) (Bin.mul (mulOk (small_abs (q.lu 1 (by decide)))))) Tru.int rfl) (ne_zero_dec _)) (Ev.sub (Ev.loc rfl) Ev.int (Itm.lst Lsy.lst (by decide) (by decide) rfl (fun q_ q_ => rfl))) Ev.int (spot_if q.ee1)) (Ev.loc rfl) (Bin.mul (mulOk (hue_abs (q.le 1 (by decide)))))) Cmp.leI (Ev.bin (Ev.loc rfl) (Ev.bin Ev.int Ev.int pow24) (Bin.mul (mulOk (stop_abs (rk5_get ((q.hd 1 (by decide)).r5)) ((q.hd 1 (by decide)).whole).1)))) Cmp.ltI (decide_eq_true (in_lo ((q.hd 1 (by decide)).isin))) (fun q_ => rfl)) (congrArg V.bool (decide_eq_true (in_hi ((q.hd 1 (by decide)).isin))))) (il hS rfl) rfl) ?_ law_le
  exact ExK.ret (BoK.next (Ev.cmp (Ev.sub (Ev.loc rfl) Ev.int (Itm.lst (Lsy.ref (l := heardV d 3) rfl) (by decide) (by decide) rfl (fun q_ q_ => rfl))) (Ev.eqv (Ev.bin (Ev.loc rfl) (Ev.lst (EvL.cons Ev.int EvL.nil)) (Bin.addL Lsy.lst Lsy.lst (le_size (text_len q)))) (snoc_eq _)) (eq_ints q.w0) rfl) Tru.bool (BoK.next (Ev.cmp (Ev.sub (Ev.loc rfl) Ev.int (Itm.lst (Lsy.ref (l := heardV d 3) rfl) (by decide) (by decide) rfl (fun q_ q_ => rfl))) (Ev.eqv (Ev.bin (Ev.eqv (Ev.sliceL (Ev.loc rfl) EvP.none EvP.none (EvP.some (Ev.una Ev.int Una.neg)) Lsy.lst (by decide) (le_size (by rw [List.length_map]; have := text_le q; lia)) (fun q_ q_ => ⟨_, rfl⟩)) (congrArg V.lst (pick_back _))) (Ev.lst (EvL.cons Ev.int EvL.nil)) (Bin.addL Lsy.lst Lsy.lst (le_size (rev_len q)))) (rev_eq _)) (eq_ints q.w2) rfl) Tru.bool (BoK.next (Ev.loc rfl) Tru.bool (BoK.next (Ev.call (gV (g_law_ranked _) (kind_of hS rfl)) (EvA.args (EvL.cons (Ev.loc rfl) (EvL.cons (Ev.loc rfl) EvL.nil))) (by exact (fn_ranked c1 _ (t := 1) (jh := 2) (jg := 3) (s := fun i => 64 * d.e i) (rk := rank3 (wordsL d)) (ls := wordsL d) rfl rfl rfl (hue_fits q) (fun i j hi hj => rank_lex hi hj) q.same).le (by decide)) (kp_law_ranked _)) Tru.bool (BoK.one (EvK'.call (q := 5) hA hfr h3 (gV (g_law_refused _) (kind_of hS rfl)) rfl (EvA.args (EvL.cons (Ev.loc rfl) EvL.nil)) ((fn_refused c1 _ (l := shelfL d 3) rfl (shelfL_len q) (fun H => num_end ▸ fn_number c1 H (.inl rfl))).le (by decide)) (kp_law_refused _) (fun q_ => rfl) (by decide) law_le5 (cl_take 5 (by decide) (by decide)) (ups5) (by decide) rfl (cl_take 2 (by decide) (by decide)))) law_le (fun q_ => rfl)) law_le (fun q_ => rfl)) law_le (fun q_ => rfl)) law_le (fun q_ => rfl))
set_option tactic.hygienic true in
theorem ns_none_of {K : Frag} {h : Heap} {a : Addr} {mc : Str → Option Value} {x : Str} (X : K.In h) (G : h.Ns a mc) (e : nsIn K a x = some none) : mc x = none := by
 obtain ⟨o, es, ep, ho, hd, _, hf⟩ := G
 unfold nsIn at e
 split at e
 ·rename_i c d es' n' sl q
  have := X _ _ q
  rw [ho] at this; cases this
  cases hd
  rw [← hf x]
  split at e
  ·cases e
  ·rename_i hn
   rw [Array.find?_toList] at hn
   show (es.find? _).map _ = none
   rw [hn]; rfl
 ·cases e
theorem no_303 (P : Params) : (hd01.heap_39 P).lookup 303 = none := by kernel_rfl
theorem no_315 (P : Params) : (hd01.heap_39 P).lookup 315 = none := by kernel_rfl
theorem booked_none (P : Params) : nsIn (hd01.heap_39 P) cStatics sharingNotToldKey = some none := by k_is
theorem law_ref (P : Params) : nsIn (hd01.heap_39 P) mainGlobals (Str.ofString "law") = some (some (.ref 325)) := by k_is
theorem ns_hide {h : Heap} {as : List Addr} {a : Addr} {m : Str → Option Value} (n : a ∉ as) (x : h.Ns a m) : (hideAll h as).Ns a m := by
 obtain ⟨o, es, ep, ho, r⟩ := x
 exact ⟨o, es, ep, hideAll_get _ ho n, r⟩
theorem well_nil {P : Params} {h : Heap} {vs : List Value} (r : WellAll P h vs []) : vs = [] := by cases r; rfl
theorem well_int {P : Params} {h : Heap} {vs : List Value} {i : Int} {l : List WData} (r : WellAll P h vs (WData.int i :: l)) : ∃ t ys, vs = .int i t :: ys ∧ WellAll P h ys l := by
 cases r with
 | cons a r => cases a; exact ⟨_, _, rfl, r⟩
theorem ints_rel {P : Params} {w : Wd} {ns : List Int} : ∀ {vs : List Value}, WellAll P w.h vs (ofPys (ns.map PyData.int)) → VRels w (ns.map V.int) vs := by
 induction ns with
 | nil => intro vs h; obtain rfl := well_nil h; exact .nil
 | cons i ns ih => intro vs h; obtain ⟨t, ys, rfl, r⟩ := well_int h; exact .cons (.int _ _) (ih r)
theorem law_true {w : World} {s₁ : Shared} {mg mb : Str → Option Value} {a : Addr} {vs : List Value} {m : Nat} {ns : List Int} {Q E : Value → Shared → Prop} (X : (hd01.heap_39 w.params).In s₁.heap) (g : s₁.heap.Ns mainGlobals mg) (b : s₁.heap.Ns builtinsNs mb) (lim : s₁.heap.NoLimit)
  (blt : ∀ x : Str, x ≠ "__name__" → mb x = bootBuiltins x) (bm : BMain mg s₁.heap) (t3 : s₁.heap.get? 303 = some (tabObj #[])) (t1 : s₁.heap.get? 315 = some (tabObj #[])) (hl : s₁.heap.get? a = some (lstObj vs m)) (hv : WellAll w.params s₁.heap vs (ofPys (ns.map PyData.int))) (hns : ns.length ≤ 100)
  (K : ∀ s', OldK s₁.heap s'.heap → s'.os = s₁.os → s'.gens = s₁.gens → Q (.bool true) s') : wpAny (model PySem.Challenge.pw_ta0122_01 w) callerA (call (.ref 325) [.ref a]) Q E s₁ := by
 have n3 : mainGlobals ∉ [303, 315] := by decide
 have n0 : builtinsNs ∉ [303, 315] := by decide
 have n2 : cStatics ∉ [303, 315] := by decide
 have Xh : (hd01.heap_39 w.params).In (hideAll s₁.heap [303, 315]) := fun q o e => hideAll_get _ (X q o e) fun mm => by
  simp only [List.mem_cons, List.not_mem_nil, or_false] at mm
  rcases mm with rfl | rfl
  ·rw [no_303] at e; cases e
  ·rw [no_315] at e; cases e
 obtain ⟨mc, hmc, hlim⟩ := lim
 have nb : NoneBooked (hideAll s₁.heap [303, 315]) := ⟨mc, ns_hide n2 hmc, ns_none_of X hmc (booked_none _)⟩
 have bm' : BMain mg (hideAll s₁.heap [303, 315]) := by
  obtain ⟨bmA, ob, h1, h2, h3, h4, h5, h6⟩ := bm
  refine ⟨bmA, ob, h1, h2, hideAll_get _ h3 fun mm => ?_, h4, h5, h6⟩
  simp only [List.mem_cons, List.not_mem_nil, or_false] at mm
  rcases mm with rfl | rfl
  ·rw [t3] at h3; cases h3; cases h4
  ·rw [t1] at h3; cases h3; cases h4
 let c : C1 := { w := w, mg := mg, mb := mb, h₀ := hideAll s₁.heap [303, 315], X := Xh, g := ns_hide n3 g, b := ns_hide n0 b, nb := nb, lim := ⟨mc, ns_hide n2 hmc, hlim⟩, blt := blt, bm := bm' }
 obtain ⟨d, q⟩ := deal_ok c.w.params (cellOf ns)
 have hlaw := law_core c hns rfl q
 have tabs : ∀ (i : Nat) (P : Addr) (nm : Str) (o : Obj), ([303, 315] : List Addr)[i]? = some P → o = tabObj #[] → (tabA i P nm).P ⟨[303, 315], [], s₁⟩ o := fun i P nm o hi ho => ⟨hi, #[], ho, trivial, fun pos v z => by cases z⟩
 have B : BSt c.ct.raw ⟨[303, 315], [], s₁⟩ law0 := by
  refine ⟨fun q o e => of_hideAll _ e, fun q mm => ⟨hideAll_none _ mm, fun z => ?_⟩, (by decide : ([303, 315] : List Addr).Nodup), rfl, fun i q o e1 e2 => ?_, (fun q_ mm => nomatch mm), (fun h => h.elim), fun i P e => ?_⟩
  ·rw [z] at mm; exact absurd mm (by decide : ¬ sysModules ∈ ([303, 315] : List Addr))
  ·match i, e1, e2 with
   | 0, e1, e2 => cases e1; cases e2; exact .sem t3 (tabs 0 303 _ _ rfl rfl)
   | 1, e1, e2 => cases e1; cases e2; exact .sem t1 (tabs 1 315 _ _ rfl rfl)
  ·match i, e with
   | 0, e => cases e; show 1 ≤ 2; decide
   | 1, e => cases e; show 2 ≤ 2; decide
 have ha : a ∉ ([303, 315] : List Addr) := fun mm => by
  simp only [List.mem_cons, List.not_mem_nil, or_false] at mm
  rcases mm with rfl | rfl
  ·rw [t3] at hl; cases hl
  ·rw [t1] at hl; cases hl
 refine wpAny_call (hlaw callerA ⟨[303, 315], [], s₁⟩ _ (.ref 325) [.ref a] ⟨rfl, by decide, by decide⟩ rfl B (.val _) (.cons (.lst hl ha (ints_rel hv)) .nil) fun w' S B' => ?_)
 refine K w'.s ⟨fun d o e => ?_, fun d o e => S.live d o e fun z => nomatch z⟩ S.os S.gens
 have er : w'.ρ = [303, 315] := by
  obtain ⟨δ, h1, _⟩ := S.rho
  have hlen := B'.len
  rw [h1, List.length_append] at hlen
  have hlen' : 2 + δ.length = 2 := hlen
  have : δ = [] := List.eq_nil_of_length_eq_zero (by lia)
  rw [h1, this]; rfl
 have tabE : ∀ (i : Nat) (P : Addr) (nm : Str), w'.ρ[i]? = some P → law0[i]? = some (.sem (tabA i P nm)) → ∃ ps, w'.s.heap.get? P = some (tabObj ps) := fun i P nm h1 h2 => by
  cases B'.obj i P _ h1 h2 with
  | sem e p =>
   obtain ⟨_, ps, rfl, _⟩ := p
   exact ⟨ps, e⟩
 by_cases mm : d ∈ ([303, 315] : List Addr)
 ·simp only [List.mem_cons, List.not_mem_nil, or_false] at mm
  rcases mm with rfl | rfl
  ·obtain ⟨ps, hps⟩ := tabE 0 303 _ (by rw [er]; rfl) rfl
   rw [t3] at e; cases e
   obtain ⟨o, us, fl, tf, fg, tg, inF, tx, tt, k1, k2, k3, k4, _⟩ := hd_right c
   exact .inr (.inl ⟨⟨305, o, us, of_hideAll _ k1, k2, k3, k4⟩, rfl, #[], ps, rfl, by rw [hps]; simp [tabObj]⟩)
  ·obtain ⟨ps, hps⟩ := tabE 1 315 _ (by rw [er]; rfl) rfl
   rw [t1] at e; cases e
   obtain ⟨o, us, fl, tf, fg, tg, inF, tx, tt, k1, k2, k3, k4, _⟩ := hd_ranked c
   exact .inr (.inl ⟨⟨319, o, us, of_hideAll _ k1, k2, k3, k4⟩, rfl, #[], ps, rfl, by rw [hps]; simp [tabObj]⟩)
 ·exact .inl (S.keep d o e mm fun z => nomatch z)
end Mine
set_option maxRecDepth 100000 in
set_option maxHeartbeats 8000000 in
theorem PySem.Challenge.cw_ta0122_01_holds : PySem.Challenge.rw_ta0122_01.Holds := by
 refine Mine.hd01 ?_
 intro w s₀ s₁ mg mb G Y fa o pm cd doc dV kV ho hd hcd hD hmg hg args vals as hpre hlay hrd hwl hlo
 have X := km_in_of Y
 have T := km_tabs_of Y
 have TT := G.T
 have hfa : fa = 325 := by
  have h := mg_of X TT.g (Mine.law_ref w.params)
  have h2 : some (Value.ref fa) = some (.ref 325) := hmg.symm.trans h
  injection h2 with h3; injection h3
 subst hfa
 clear hcd hD hd ho hmg
 wrow_args hpre hlay hrd hwl hlo
 rename Well _ _ _ _ => w1
 rename List Int => ns
 rename (¬ _ < (List.length _ : Int)) => hlen
 cases w1 with | list hl hv =>
 refine Mine.law_true (ns := ns) X TT.g TT.b TT.nolimit TT.builtins ?_ (T 303 (by decide)) (T 315 (by decide)) hl hv ?_ fun s' h1 h2 h3 => ?_
 ·obtain ⟨bm, ob, h1, h2, h3, h4, h5, h6⟩ := TT.bmain
  exact ⟨bm, ob, h1, h2, h3, h4, h5, h6⟩
 ·omega
 ·refine ⟨.inl ⟨_, .bool true, [], rfl, raisesW_false (by wrow_none_raised), .bool _, by wrow_post, fun q_ => ⟨List.nodup_nil, (fun q_ m => nomatch m)⟩⟩, h1, h2, .of_eq (h3.trans hg)⟩
