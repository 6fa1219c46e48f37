import PyProof.Rows.All
import Wide.All
import OpenK.AllK
import Wide.FinOn
import PySem.Challenge.RW_bm0038_06
set_option Elab.async false
set_option maxRecDepth 1000000
set_option maxHeartbeats 0
set_option linter.all false
set_option linter.unusedVariables false
set_option linter.unusedSimpArgs false
namespace Mini
open PySem PySem.W PySem.Calls PyProof.Rows

/-- values of the small language: tuples, ranges, bytes by value; lists, instances, dicts by number -/
inductive V where
  | none | bool (b : Bool) | int (i : Int) | str (s : Str) | bytes (b : Array UInt8)
  | type (n : String) | bi (n : String)
  | ref (i : Nat) | stat (a : Addr)
  | tup (vs : List V) | rng (a b c : Int) | slc (lo hi : Option Int) | rvs
  | own (C : Addr) (vs : List V)
  | lam (ps : Arguments) (body : Expr) (sc : Scope)
  deriving Inhabited

inductive O where
  | list (xs : List V)
  | inst (C : Addr) (fs : List (Str × V))
  | dict (kvs : List (Int × V))
  deriving Inhabited

abbrev Hp := List O
abbrev Loc := List (Str × V)

/-- what is known of an address -/
inductive Own where
  | fro (o : Obj) | prv (o : Obj) | obj (i : Nat) | dct (i : Nat) | tab (ps : Array Value)

abbrev OM := Addr → Option Own
def Le (W W' : OM) : Prop := ∀ a x, W a = some x → W' a = some x
/-- the same but for what is private to X -/
def LeX (X : Addr → Prop) (W W' : OM) : Prop := ∀ a x, W a = some x → ((∃ o, x = .prv o) ∧ X a) ∨ W' a = some x
theorem Le.refl (W : OM) : Le W W := fun _ _ e => e
theorem Le.trans {W W' W'' : OM} (h : Le W W') (h' : Le W' W'') : Le W W'' := fun a x e => h' a x (h a x e)
theorem Le.x {X : Addr → Prop} {W W' : OM} (h : Le W W') : LeX X W W' := fun a x e => .inr (h a x e)
theorem LeX.refl {X : Addr → Prop} (W : OM) : LeX X W W := (Le.refl W).x
def Live (W W' : OM) : Prop := ∀ a x, W a = some x → (∃ o, x = .prv o) ∨ W' a = some x
theorem LeX.live {X : Addr → Prop} {W W' : OM} (h : LeX X W W') : Live W W' := fun a x e => (h a x e).imp (·.1) id
theorem Le.live {W W' : OM} (h : Le W W') : Live W W' := fun a x e => .inr (h a x e)

abbrev tupObj (cvs : Array Value) (n : Nat) : Obj := { cls := .type "tuple", data := .seq cvs n }
abbrev rngObj (a b c : Int) (t u v : Tok) : Obj := { cls := .type "range", data := .fields #[.int a t, .int b u, .int c v] }
abbrev slcObj (l u : Value) : Obj := { cls := .type "slice", data := .fields #[l, u, .none] }
abbrev lstObj (cvs : Array Value) (n : Nat) : Obj := { cls := .type "list", data := .seq cvs n }

mutual
/-- an abstract value and a value of the model -/
inductive VR (W : OM) : V → Value → Prop
  | none : VR W .none .none
  | bool (b : Bool) : VR W (.bool b) (.bool b)
  | int (i : Int) (t : Tok) : VR W (.int i) (.int i t)
  | str (x : Str) (t : Tok) : VR W (.str x) (.str x t)
  | bytes (b : Array UInt8) (t : Tok) : VR W (.bytes b) (.bytes b t)
  | type (n : String) : VR W (.type n) (.type n)
  | bi (n : String) : VR W (.bi n) (.builtin n)
  | ref {i : Nat} {a : Addr} : W a = some (.obj i) → VR W (.ref i) (.ref a)
  | stat {a : Addr} {o : Obj} : W a = some (.fro o) → VR W (.stat a) (.ref a)
  | tup {vs : List V} {cvs : List Value} {a : Addr} {n : Nat} : W a = some (.fro (tupObj cvs.toArray n)) → VRs W vs cvs → VR W (.tup vs) (.ref a)
  | rng {a b c : Int} {t u v : Tok} {x : Addr} : W x = some (.fro (rngObj a b c t u v)) → VR W (.rng a b c) (.ref x)
  | slc {lo hi : Option Int} {l u : Value} {x : Addr} : W x = some (.fro (slcObj l u)) → IsPart l lo → IsPart u hi → VR W (.slc lo hi) (.ref x)
  | rvs {x : Addr} {t : Tok} : W x = some (.fro { cls := .type "slice", data := .fields #[.none, .none, .int (-1) t] }) → VR W .rvs (.ref x)
  | own {C : Addr} {vs : List V} {cvs : List Value} {a : Addr} {n : Nat} {d : Addr} : W a = some (.fro { cls := .ref C, dict := some d, data := .seq cvs.toArray n }) → W d = some (.fro { cls := .type "dict", data := .dict #[] }) → VRs W vs cvs → VR W (.own C vs) (.ref a)
inductive VRs (W : OM) : List V → List Value → Prop
  | nil : VRs W [] []
  | cons {v c vs cs} : VR W v c → VRs W vs cs → VRs W (v :: vs) (c :: cs)
end

theorem Live.fro {W W' : OM} (h : Live W W') {a : Addr} {o : Obj} (e : W a = some (.fro o)) : W' a = some (.fro o) := by
  rcases h a _ e with ⟨o', q⟩ | q
  · cases q
  · exact q
theorem Live.obj {W W' : OM} (h : Live W W') {a : Addr} {i : Nat} (e : W a = some (.obj i)) : W' a = some (.obj i) := by
  rcases h a _ e with ⟨o', q⟩ | q
  · cases q
  · exact q
theorem Live.dct {W W' : OM} (h : Live W W') {a : Addr} {i : Nat} (e : W a = some (.dct i)) : W' a = some (.dct i) := by
  rcases h a _ e with ⟨o', q⟩ | q
  · cases q
  · exact q

mutual
theorem VR.live {W W' : OM} (h : Live W W') : ∀ {v : V} {c : Value}, VR W v c → VR W' v c
  | _, _, .none => .none
  | _, _, .bool b => .bool b
  | _, _, .int i t => .int i t
  | _, _, .str i t => .str i t
  | _, _, .bytes i t => .bytes i t
  | _, _, .type n => .type n
  | _, _, .bi n => .bi n
  | _, _, .ref e => .ref (h.obj e)
  | _, _, .stat e => .stat (h.fro e)
  | _, _, .tup e r => .tup (h.fro e) (VRs.live h r)
  | _, _, .rng e => .rng (h.fro e)
  | _, _, .slc e a b => .slc (h.fro e) a b
  | _, _, .rvs e => .rvs (h.fro e)
  | _, _, .own e d r => .own (h.fro e) (h.fro d) (VRs.live h r)
theorem VRs.live {W W' : OM} (h : Live W W') : ∀ {v : List V} {c : List Value}, VRs W v c → VRs W' v c
  | _, _, .nil => .nil
  | _, _, .cons a r => .cons (VR.live h a) (VRs.live h r)
end
theorem VR.le {W W' : OM} (h : Le W W') {v : V} {c : Value} (x : VR W v c) : VR W' v c := x.live h.live
theorem VRs.le {W W' : OM} (h : Le W W') {v : List V} {c : List Value} (x : VRs W v c) : VRs W' v c := x.live h.live
end Mini
namespace Mini
open PySem PySem.W PySem.W.X PySem.Calls PyProof.Rows

structure Base where
  prog : Program
  w : World
  K : Frag
  h₀ : Heap
  os : OsState
  tabs : List (Addr × Array Value)
abbrev Base.m (B : Base) : Model := model B.prog B.w

def FR (W : OM) : List (Str × V) → List DictEntry → Prop
  | [], [] => True
  | (x, v) :: fs, e :: es => (∃ t, e.key = .str x t) ∧ VR W v e.val ∧ FR W fs es
  | _, _ => False
def KR (W : OM) : List (Int × V) → List DictEntry → Prop
  | [], [] => True
  | (x, v) :: fs, e :: es => (∃ t, e.key = .int x t) ∧ e.hash = hashInt x ∧ VR W v e.val ∧ KR W fs es
  | _, _ => False
theorem FR.live {W W' : OM} (h : Live W W') : ∀ {fs : List (Str × V)} {es : List DictEntry}, FR W fs es → FR W' fs es
  | [], [], _ => trivial
  | _ :: _, _ :: _, ⟨a, b, c⟩ => ⟨a, b.live h, FR.live h c⟩
  | [], _ :: _, x => x.elim
  | _ :: _, [], x => x.elim
theorem KR.live {W W' : OM} (h : Live W W') : ∀ {fs : List (Int × V)} {es : List DictEntry}, KR W fs es → KR W' fs es
  | [], [], _ => trivial
  | _ :: _, _ :: _, ⟨a, b, c, d⟩ => ⟨a, b, c.live h, KR.live h d⟩
  | [], _ :: _, x => x.elim
  | _ :: _, [], x => x.elim

/-- an abstract object, in a heap, at its address -/
def Conc (W : OM) (h : Heap) (a : Addr) (i : Nat) : O → Prop
  | .list xs => ∃ cvs n, h.get? a = some (lstObj cvs n) ∧ VRs W xs cvs.toList
  | .inst C fs => ∃ d es n, h.get? a = some (instObj C d) ∧ W d = some (.dct i) ∧ h.get? d = some (dictOf es n) ∧ FR W fs es
  | .dict kvs => ∃ es n, h.get? a = some (dictOf es n) ∧ KR W kvs es ∧ (kvs.map (·.1)).Nodup

theorem Conc.live {W W' : OM} {h h' : Heap} {a : Addr} {i : Nat} {o : O} (l : Live W W') (c : Conc W h a i o) (ha : ∀ x, h.get? a = some x → h'.get? a = some x)
    (hd : ∀ d x, W d = some (.dct i) → h.get? d = some x → h'.get? d = some x) : Conc W' h' a i o := by
  cases o with
  | list xs => obtain ⟨cvs, n, e, r⟩ := c; exact ⟨cvs, n, ha _ e, r.live l⟩
  | inst C fs => obtain ⟨d, es, n, e, q, f, r⟩ := c; exact ⟨d, es, n, ha _ e, l.dct q, hd _ _ q f, r.live l⟩
  | dict kvs => obtain ⟨es, n, e, r, nd⟩ := c; exact ⟨es, n, ha _ e, r.live l, nd⟩
theorem Conc.there {W : OM} {h : Heap} {a : Addr} {i : Nat} {o : O} (c : Conc W h a i o) : ∃ x, h.get? a = some x := by
  cases o with
  | list xs => obtain ⟨cvs, n, e, r⟩ := c; exact ⟨_, e⟩
  | inst C fs => obtain ⟨d, es, n, e, q, f, r⟩ := c; exact ⟨_, e⟩
  | dict kvs => obtain ⟨es, n, e, r⟩ := c; exact ⟨_, e⟩

/-- where a code object keeps the codes made in it -/
def codeTab (o : Obj) : Option Addr := match o with
  | ⟨.type t, _, .fields vs, _⟩ => if t == "code" then (match vs.getD 11 .none, vs.getD 18 .none, vs.getD 7 .none, vs.getD 9 .none, vs.getD 10 .none with
    | .ref P, .str _ _, .int _ _, .bool _, .int _ _ => some P
    | _, _, _, _, _ => none) else none
  | _ => none

structure Base.Ok (B : Base) : Prop where
  kin : B.K.In B.h₀
  notab : ∀ a o, B.K.lookup a = some o → tabOf o = none
  nolimit : B.h₀.NoLimit
  sys : ∃ o, B.h₀.get? sysModules = some o
  bmod : ∃ mg bm ob, BMod B.h₀ mainGlobals mg bm ob
  codes : ∀ a o fd c, B.K.lookup a = some o → o.data = .func fd → fd.code = .ref c → ∃ o' P ps, B.K.lookup c = some o' ∧ codeTab o' = some P ∧ B.tabs.lookup P = some ps
  top : ∃ mg mb, B.h₀.Ns mainGlobals mg ∧ B.h₀.Ns builtinsNs mb ∧ ∀ x : Str, x ≠ "__name__" → mb x = bootBuiltins x

/-- a heap of the model bears the abstract heap -/
structure Sim (B : Base) (W : OM) (H : Hp) (s : Shared) : Prop where
  base : ∀ a o, B.h₀.get? a = some o → W a = some (.fro o) ∨ ∃ ps c, o = tableObj ps ∧ W a = some (.tab ps) ∧ B.h₀.TableAt c a ps
  fro : ∀ a o, W a = some (.fro o) → s.heap.get? a = some o
  prv : ∀ a o, W a = some (.prv o) → s.heap.get? a = some o
  obj : ∀ a i, W a = some (.obj i) → ∃ o, H[i]? = some o ∧ Conc W s.heap a i o
  dct : ∀ a i, W a = some (.dct i) → ∃ o, s.heap.get? a = some o
  inj : ∀ a b i, W a = some (.obj i) → W b = some (.obj i) → a = b
  dlt : ∀ a i, W a = some (.dct i) → i < H.length
  tab : ∀ a ps, W a = some (.tab ps) → (∃ c, B.h₀.TableAt c a ps) ∧ ∃ more, s.heap.get? a = some (tableObj (ps ++ more)) ∧ TriplesOk (ps ++ more).toList
  ctab : ∀ a ps, B.tabs.lookup a = some ps → (∃ o, B.h₀.get? a = some o) ∧ W a = some (.tab ps)
  os : s.os = B.os
  gens : AllBare s.gens

namespace Sim
variable {B : Base} {W : OM} {H : Hp} {s : Shared}
theorem tok (S : Sim B W H s) (t : Nat) : Sim B W H { s with toks := t } := ⟨S.base, S.fro, S.prv, S.obj, S.dct, S.inj, S.dlt, S.tab, S.ctab, S.os, S.gens⟩
theorem lt (S : Sim B W H s) {a : Addr} {x : Own} (e : W a = some x) : a < s.heap.objs.size := by
  cases x with
  | fro o => exact Heap.lt_size (S.fro a o e)
  | prv o => exact Heap.lt_size (S.prv a o e)
  | obj i => obtain ⟨o, _, c⟩ := S.obj a i e; obtain ⟨x, q⟩ := c.there; exact Heap.lt_size q
  | dct i => obtain ⟨o, q⟩ := S.dct a i e; exact Heap.lt_size q
  | tab ps => obtain ⟨_, more, q, _⟩ := S.tab a ps e; exact Heap.lt_size q
theorem fresh (S : Sim B W H s) {a : Addr} (h : s.heap.objs.size ≤ a) : W a = none := by
  cases e : W a with
  | none => rfl
  | some x => exact absurd (S.lt e) (Nat.not_lt.mpr h)
theorem kin (O : B.Ok) (S : Sim B W H s) : B.K.In s.heap := by
  intro a o e
  rcases S.base a o (O.kin a o e) with q | ⟨ps, c, rfl, q, _⟩
  · exact S.fro a o q
  · have := O.notab a _ e; cases this
theorem kfro (O : B.Ok) (S : Sim B W H s) {a : Addr} {o : Obj} (e : B.K.lookup a = some o) : W a = some (.fro o) := by
  rcases S.base a o (O.kin a o e) with q | ⟨ps, c, rfl, q, _⟩
  · exact q
  · have := O.notab a _ e; cases this
theorem ns (S : Sim B W H s) {a : Addr} {m : Str → Option Value} (n : B.h₀.Ns a m) : s.heap.Ns a m := by
  obtain ⟨o, es, ep, ho, hd, r⟩ := n
  refine ⟨o, es, ep, ?_, hd, r⟩
  rcases S.base _ o ho with q | ⟨ps, c, rfl, q, _⟩
  · exact S.fro _ o q
  · cases hd
theorem nolimit (O : B.Ok) (S : Sim B W H s) : s.heap.NoLimit := by
  obtain ⟨mc, ⟨o, es, ep, ho, hd, hk, hf⟩, h2⟩ := O.nolimit
  refine ⟨mc, ⟨o, es, ep, ?_, hd, hk, hf⟩, h2⟩
  rcases S.base _ o ho with q | ⟨ps, c, rfl, q, _⟩
  · exact S.fro _ o q
  · cases hd
end Sim

def put (W : OM) (a : Addr) (x : Own) : OM := fun b => if b = a then some x else W b
theorem put_self (W : OM) (a : Addr) (x : Own) : put W a x a = some x := by simp [put]
theorem put_ne (W : OM) {a b : Addr} (x : Own) (h : b ≠ a) : put W a x b = W b := by simp [put, h]
theorem le_put {W : OM} {a : Addr} {x : Own} (h : W a = none) : Le W (put W a x) := fun b y e => by
  have : b ≠ a := fun q => by rw [q, h] at e; cases e
  rw [put_ne W x this]; exact e
theorem put_eq {W : OM} {a b : Addr} {x y : Own} (h : put W a x b = some y) : (b = a ∧ y = x) ∨ (b ≠ a ∧ W b = some y) := by
  by_cases q : b = a
  · subst q; rw [put_self] at h; cases h; exact .inl ⟨rfl, rfl⟩
  · rw [put_ne W x q] at h; exact .inr ⟨q, h⟩

/-- a private object is set anew -/
theorem live_put {W : OM} {a : Addr} {o o' : Obj} (h : W a = some (.prv o)) : Live W (put W a (.prv o')) := fun b y e => by
  by_cases q : b = a
  · subst q; rw [h] at e; cases e; exact .inl ⟨_, rfl⟩
  · rw [put_ne W _ q]; exact .inr e


theorem live_put_none {W : OM} {a : Addr} {x : Own} (h : W a = none) : Live W (put W a x) := (le_put h).live

namespace Sim
variable {B : Base} {W W' : OM} {H : Hp} {s : Shared}
/-- more is owned, all that was owned stands -/
theorem grow (S : Sim B W H s) {s' : Shared} {H' : Hp} (l : Live W W') (hH : ∀ (i : Nat) (o : O), H[i]? = some o → H'[i]? = some o) (hle : H.length ≤ H'.length)
    (hbase : ∀ a x, (∃ o, B.h₀.get? a = some o) → W a = some x → W' a = some x)
    (k : ∀ b x, W b = some x → (∃ o, x = .prv o) ∨ s'.heap.get? b = s.heap.get? b)
    (new : ∀ b x, W' b = some x → W b = some x ∨ (match x with
      | .fro o => s'.heap.get? b = some o
      | .prv o => s'.heap.get? b = some o
      | .obj i => (∃ o, H'[i]? = some o ∧ Conc W' s'.heap b i o ∧ ∀ c, W' c = some (.obj i) → c = b)
      | .dct i => (∃ o, s'.heap.get? b = some o) ∧ i < H'.length
      | .tab _ => False))
    (kp : ∀ b o, W b = some (.prv o) → W' b = some (.prv o) → s'.heap.get? b = s.heap.get? b)
    (o : s'.os = s.os) (g : AllBare s'.gens) : Sim B W' H' s' := by
  have kk : ∀ b x, W b = some x → (∀ o, x ≠ .prv o) → s'.heap.get? b = s.heap.get? b := fun b x e n => (k b x e).resolve_left fun ⟨o, q⟩ => n o q
  refine ⟨fun a ob e => ?_, fun a ob e => ?_, fun a ob e => ?_, fun a i e => ?_, fun a i e => ?_, fun a b i e f => ?_, fun a i e => ?_, fun a ps e => ?_, fun a ps e => let ⟨h1, h2⟩ := S.ctab a ps e; ⟨h1, hbase a _ h1 h2⟩, o.trans S.os, g⟩
  · rcases S.base a ob e with q | ⟨ps, c, r, q, t⟩
    · exact .inl (hbase a _ ⟨_, e⟩ q)
    · exact .inr ⟨ps, c, r, hbase a _ ⟨_, e⟩ q, t⟩
  · rcases new a _ e with q | q
    · exact (kk a _ q (by intro o q; cases q)).trans (S.fro a _ q)
    · exact q
  · rcases new a _ e with q | q
    · exact (kp a _ q e).trans (S.prv a _ q)
    · exact q
  · rcases new a _ e with q | ⟨ob, q, r, _⟩
    · obtain ⟨ob, h1, c⟩ := S.obj a i q
      exact ⟨ob, hH _ _ h1, c.live l (fun x z => (kk a _ q (by intro o q; cases q)).trans z) fun d x z r => (kk d _ z (by intro o q; cases q)).trans r⟩
    · exact ⟨ob, q, r⟩
  · rcases new a _ e with q | ⟨q, _⟩
    · obtain ⟨ob, z⟩ := S.dct a i q
      exact ⟨ob, (kk a _ q (by intro o q; cases q)).trans z⟩
    · exact q
  · rcases new b _ f with q | ⟨_, _, _, q⟩
    · rcases new a _ e with q' | ⟨_, _, _, q'⟩
      · exact S.inj a b i q' q
      · exact (q' b f).symm
    · exact q a e
  · rcases new a _ e with q | ⟨_, q⟩
    · exact Nat.lt_of_lt_of_le (S.dlt a i q) hle
    · exact q
  · rcases new a _ e with q | q
    · obtain ⟨c, more, z, t⟩ := S.tab a ps q
      exact ⟨c, more, (kk a _ q (by intro o q; cases q)).trans z, t⟩
    · exact q.elim

theorem heapOnly (S : Sim B W H s) {s' : Shared} (h : s'.heap = s.heap) (o : s'.os = s.os) (g : s'.gens = s.gens) : Sim B W H s' :=
  S.grow (Le.refl W).live (fun _ _ e => e) (Nat.le_refl _) (fun _ _ _ e => e) (fun _ _ _ => .inr (by rw [h])) (fun _ _ e => .inl e) (fun _ _ _ _ => by rw [h]) o (g ▸ S.gens)

theorem push_none (S : Sim B W H s) : W s.heap.objs.size = none := S.fresh (Nat.le_refl _)
theorem push_base (S : Sim B W H s) {x : Own} : ∀ a y, (∃ o, B.h₀.get? a = some o) → W a = some y → put W s.heap.objs.size x a = some y := fun a y _ e => le_put S.push_none a y e

theorem push_get (S : Sim B W H s) (o : Obj) {b : Addr} {x : Own} (e : W b = some x) : (s.heap.push o).get? b = s.heap.get? b := by
  have : ∃ y, s.heap.get? b = some y := by
    cases x with
    | fro o => exact ⟨o, S.fro b o e⟩
    | prv o => exact ⟨o, S.prv b o e⟩
    | obj i => obtain ⟨o, _, c⟩ := S.obj b i e; exact c.there
    | dct i => exact S.dct b i e
    | tab ps => obtain ⟨_, more, q, _⟩ := S.tab b ps e; exact ⟨_, q⟩
  obtain ⟨y, hy⟩ := this
  rw [hy]; exact Heap.get?_push_of_some _ hy

/-- an object, made and left alone -/
theorem push_fro (S : Sim B W H s) (o : Obj) (hf : o.isFreed = false) (t : Nat) : Sim B (put W s.heap.objs.size (.fro o)) H { s with heap := s.heap.push o, toks := t } := by
  refine S.grow (le_put S.push_none).live (fun _ _ e => e) (Nat.le_refl _) S.push_base (fun b x e => .inr (S.push_get o e)) (fun b x e => ?_) (fun b o' e _ => S.push_get o e) rfl S.gens
  rcases put_eq e with ⟨rfl, rfl⟩ | ⟨_, q⟩
  · exact .inr (Heap.get?_push_size _ hf)
  · exact .inl q
theorem push_prv (S : Sim B W H s) (o : Obj) (hf : o.isFreed = false) (t : Nat) : Sim B (put W s.heap.objs.size (.prv o)) H { s with heap := s.heap.push o, toks := t } := by
  refine S.grow (le_put S.push_none).live (fun _ _ e => e) (Nat.le_refl _) S.push_base (fun b x e => .inr (S.push_get o e)) (fun b x e => ?_) (fun b o' e _ => S.push_get o e) rfl S.gens
  rcases put_eq e with ⟨rfl, rfl⟩ | ⟨_, q⟩
  · exact .inr (Heap.get?_push_size _ hf)
  · exact .inl q
/-- an object that nobody asks for any more -/
theorem push (S : Sim B W H s) (o : Obj) (t : Nat) : Sim B W H { s with heap := s.heap.push o, toks := t } :=
  S.grow (Le.refl W).live (fun _ _ e => e) (Nat.le_refl _) (fun _ _ _ e => e) (fun b x e => .inr (S.push_get o e)) (fun b x e => .inl e) (fun b o' e _ => S.push_get o e) rfl S.gens

theorem noobj (S : Sim B W H s) {i : Nat} (hi : H.length ≤ i) (a : Addr) : W a ≠ some (.obj i) := fun e => by
  obtain ⟨o, h1, _⟩ := S.obj a i e
  rw [List.getElem?_eq_none hi] at h1; cases h1
theorem nodct (S : Sim B W H s) {i : Nat} (hi : H.length ≤ i) (a : Addr) : W a ≠ some (.dct i) := fun e => Nat.lt_irrefl _ (Nat.lt_of_lt_of_le (S.dlt a i e) hi)

theorem getElem?_snoc (H : Hp) (x : O) : (H ++ [x])[H.length]? = some x := by simp
theorem getElem?_snoc_of {H : Hp} {x o : O} {i : Nat} (e : H[i]? = some o) : (H ++ [x])[i]? = some o := by
  have : i < H.length := (List.getElem?_eq_some_iff.mp e).1
  rw [List.getElem?_append_left this]; exact e

/-- a list is made -/
theorem push_list (S : Sim B W H s) {xs : List V} {cvs : Array Value} (r : VRs W xs cvs.toList) (n : Nat) (t : Nat) :
    Sim B (put W s.heap.objs.size (.obj H.length)) (H ++ [.list xs]) { s with heap := s.heap.push (lstObj cvs n), toks := t } := by
  refine S.grow (le_put S.push_none).live (fun _ _ e => getElem?_snoc_of e) (by simp) S.push_base (fun b x e => .inr (S.push_get _ e)) (fun b x e => ?_) (fun b o' e _ => S.push_get _ e) rfl S.gens
  rcases put_eq e with ⟨rfl, rfl⟩ | ⟨_, q⟩
  · refine .inr ⟨_, getElem?_snoc _ _, ⟨cvs, n, Heap.get?_push_size _ rfl, r.le (le_put S.push_none)⟩, fun c e => ?_⟩
    rcases put_eq e with ⟨rfl, _⟩ | ⟨_, q⟩
    · rfl
    · exact absurd q (S.noobj (Nat.le_refl _) c)
  · exact .inl q
/-- an empty dict is made -/
theorem push_dict (S : Sim B W H s) (t : Nat) :
    Sim B (put W s.heap.objs.size (.obj H.length)) (H ++ [.dict []]) { s with heap := s.heap.push emptyDict, toks := t } := by
  refine S.grow (le_put S.push_none).live (fun _ _ e => getElem?_snoc_of e) (by simp) S.push_base (fun b x e => .inr (S.push_get _ e)) (fun b x e => ?_) (fun b o' e _ => S.push_get _ e) rfl S.gens
  rcases put_eq e with ⟨rfl, rfl⟩ | ⟨_, q⟩
  · refine .inr ⟨_, getElem?_snoc _ _, ⟨[], 0, Heap.get?_push_size _ rfl, trivial, by simp⟩, fun c e => ?_⟩
    rcases put_eq e with ⟨rfl, _⟩ | ⟨_, q⟩
    · rfl
    · exact absurd q (S.noobj (Nat.le_refl _) c)
  · exact .inl q
abbrev putInst (W : OM) (n i : Nat) : OM := put (put W n (.dct i)) (n + 1) (.obj i)
theorem le_putInst (S : Sim B W H s) : Le W (putInst W s.heap.objs.size H.length) :=
  (le_put S.push_none).trans (le_put ((put_ne W _ (Nat.succ_ne_self s.heap.objs.size)).trans (S.fresh (Nat.le_succ s.heap.objs.size))))
/-- an instance is made, without fields -/
theorem push_inst (S : Sim B W H s) (C : Addr) (t : Nat) :
    Sim B (putInst W s.heap.objs.size H.length) (H ++ [.inst C []]) { s with heap := (s.heap.push emptyDict).push (instObj C s.heap.objs.size), toks := t } := by
  have l := S.le_putInst
  have gd : ((s.heap.push emptyDict).push (instObj C s.heap.objs.size)).get? s.heap.objs.size = some emptyDict := Heap.get?_push_of_some _ (Heap.get?_push_size _ rfl)
  have gi : ((s.heap.push emptyDict).push (instObj C s.heap.objs.size)).get? (s.heap.objs.size + 1) = some (instObj C s.heap.objs.size) := by
    have := Heap.get?_push_size (s.heap.push emptyDict) (o := instObj C s.heap.objs.size) rfl
    rwa [Heap.size_push] at this
  have k : ∀ b x, W b = some x → ((s.heap.push emptyDict).push (instObj C s.heap.objs.size)).get? b = s.heap.get? b := fun b x e => by
    have h1 := S.push_get emptyDict e
    have : ∃ y, s.heap.get? b = some y := by
      cases q : s.heap.get? b with
      | some y => exact ⟨y, rfl⟩
      | none =>
        cases x with
        | fro o => exact ⟨o, q ▸ S.fro b o e⟩
        | prv o => exact ⟨o, q ▸ S.prv b o e⟩
        | obj i => obtain ⟨o, _, c⟩ := S.obj b i e; rw [← q]; exact c.there
        | dct i => rw [← q]; exact S.dct b i e
        | tab ps => obtain ⟨_, more, z, _⟩ := S.tab b ps e; exact ⟨_, q ▸ z⟩
    obtain ⟨y, hy⟩ := this
    rw [hy] at h1 ⊢
    exact Heap.get?_push_of_some _ h1
  refine S.grow l.live (fun _ _ e => getElem?_snoc_of e) (by simp) (fun a y _ e => l a y e) (fun b x e => .inr (k b x e)) (fun b x e => ?_) (fun b o' e _ => k b _ e) rfl S.gens
  rcases put_eq e with ⟨rfl, rfl⟩ | ⟨_, q⟩
  · refine .inr ⟨_, getElem?_snoc _ _, ⟨s.heap.objs.size, [], 0, gi, ?_, gd, trivial⟩, fun c e => ?_⟩
    · exact (put_ne _ _ (Nat.ne_of_lt (Nat.lt_succ_self s.heap.objs.size))).trans (put_self _ _ _)
    · rcases put_eq e with ⟨rfl, _⟩ | ⟨_, q⟩
      · rfl
      · rcases put_eq q with ⟨_, q⟩ | ⟨_, q⟩
        · cases q
        · exact absurd q (S.noobj (Nat.le_refl _) c)
  · rcases put_eq q with ⟨rfl, rfl⟩ | ⟨_, q⟩
    · exact .inr ⟨⟨_, gd⟩, by simp⟩
    · exact .inl q

/-- an abstract object is changed in its place -/
theorem change (S : Sim B W H s) {a : Addr} {i : Nat} {o o' : O} {h' : Heap} (ha : W a = some (.obj i)) (t : Nat)
    (hb : ∀ b, b ≠ a → W b ≠ some (.dct i) → h'.get? b = s.heap.get? b) (hc : Conc W h' a i o') (hd : ∀ d, W d = some (.dct i) → ∃ o, h'.get? d = some o) (ho : H[i]? = some o) :
    Sim B W (H.set i o') { s with heap := h', toks := t } := by
  have hlt : i < H.length := (List.getElem?_eq_some_iff.mp ho).1
  have ne : ∀ b x, W b = some x → x ≠ .obj i → x ≠ .dct i → h'.get? b = s.heap.get? b := fun b x e n1 n2 =>
    hb b (fun q => n1 (by rw [q, ha] at e; exact (Option.some.inj e).symm)) (fun q => n2 (by rw [e] at q; exact Option.some.inj q))
  refine ⟨S.base, fun b ob e => (ne b _ e (by intro q; cases q) (by intro q; cases q)).trans (S.fro b ob e), fun b ob e => (ne b _ e (by intro q; cases q) (by intro q; cases q)).trans (S.prv b ob e), fun b j e => ?_, fun b j e => ?_, S.inj, fun b j e => ?_, fun b ps e => ?_, S.ctab, S.os, S.gens⟩
  · by_cases q : j = i
    · subst q
      have := S.inj _ _ _ e ha
      subst this
      exact ⟨o', by rw [List.getElem?_set_self hlt], hc⟩
    · obtain ⟨ob, h1, c⟩ := S.obj b j e
      exact ⟨ob, by rw [List.getElem?_set_ne (Ne.symm q)]; exact h1, c.live (Le.refl W).live (fun x z => (ne b _ e (by intro z; cases z; exact q rfl) (by intro z; cases z)).trans z)
        fun d x z r => (ne d _ z (by intro z; cases z) (by intro z; cases z; exact q rfl)).trans r⟩
  · by_cases q : j = i
    · subst q; exact hd b e
    · obtain ⟨ob, z⟩ := S.dct b j e
      exact ⟨ob, (ne b _ e (by intro z; cases z) (by intro z; cases z; exact q rfl)).trans z⟩
  · rw [List.length_set]; exact S.dlt b j e
  · obtain ⟨c, more, z, t⟩ := S.tab b ps e
    exact ⟨c, more, (ne b _ e (by intro z; cases z) (by intro z; cases z)).trans z, t⟩

/-- a private object is set anew -/
theorem repin (S : Sim B W H s) {a : Addr} {o o' : Obj} {h' : Heap} (ha : W a = some (.prv o)) (t : Nat) (hs : Heap.SameBut a s.heap h') (h1 : h'.get? a = some o') (hnew : B.h₀.get? a = none) :
    Sim B (put W a (.prv o')) H { s with heap := h', toks := t } := by
  refine S.grow (live_put ha) (fun _ _ e => e) (Nat.le_refl _) (fun b x ⟨ob, q⟩ e => ?_) (fun b x e => ?_) (fun b x e => ?_) (fun b ob e f => ?_) rfl S.gens
  · rw [put_ne]
    · exact e
    · rintro rfl; rw [hnew] at q; cases q
  · by_cases q : b = a
    · subst q; rw [ha] at e; cases e; exact .inl ⟨_, rfl⟩
    · exact .inr (hs.2 b q)
  · rcases put_eq e with ⟨rfl, rfl⟩ | ⟨_, q⟩
    · exact .inr h1
    · exact .inl q
  · by_cases q : b = a
    · subst q; rw [ha] at e; cases e; rw [put_self] at f; cases f; exact h1.trans (S.prv _ _ ha).symm
    · exact hs.2 b q
theorem new_prv (S : Sim B W H s) {a : Addr} (h : W a = none) : B.h₀.get? a = none := by
  cases q : B.h₀.get? a with
  | none => rfl
  | some o => rcases S.base a o q with z | ⟨_, _, _, z, _⟩ <;> rw [h] at z <;> cases z
theorem prv_new (S : Sim B W H s) {a : Addr} {o : Obj} (h : W a = some (.prv o)) : B.h₀.get? a = none := by
  cases q : B.h₀.get? a with
  | none => rfl
  | some o => rcases S.base a o q with z | ⟨_, _, _, z, _⟩ <;> rw [h] at z <;> cases z
end Sim
end Mini
namespace Mini
open PySem PySem.W PySem.W.X PySem.Calls PyProof.Rows

inductive Fl where
  | next | brk | cont | ret (v : V)
  deriving Inhabited

/-- an iterator: a list by number and place; items still to come; two abreast; numbered -/
inductive It where
  | lst (i : Nat) (k : Nat)
  | seq (vs : List V)
  | rng (x left step : Int)
  | zip (a b : It)
  | enum (n : Int) (a : It)
  deriving Inhabited

def mapO {α β : Type} (f : α → Option β) : List α → Option (List β)
  | [] => some []
  | x :: r => match f x with
    | some y => (match mapO f r with | some ys => some (y :: ys) | none => none)
    | none => none

/-! what stands at the top -/
def asTup (o : Obj) : Option (List Value) := match o with
  | ⟨.type n, .none, .seq xs _, sl⟩ => if n == "tuple" && sl.isEmpty then some xs.toList else none
  | _ => none
def asLst (o : Obj) : Option (List Value) := match o with
  | ⟨.type n, .none, .seq xs _, sl⟩ => if n == "list" && sl.isEmpty then some xs.toList else none
  | _ => none
def asDct (o : Obj) : Option (List DictEntry) := match o with
  | ⟨.type n, .none, .dict es _, sl⟩ => if n == "dict" && sl.isEmpty then some es.toList else none
  | _ => none
def ofVal (K : Frag) : Nat → Value → Option V
  | 0, _ => none
  | n + 1, v => match v with
    | .none => some .none
    | .bool b => some (.bool b)
    | .int i _ => some (.int i)
    | .str s _ => some (.str s)
    | .bytes b _ => some (.bytes b)
    | .type t => some (.type t)
    | .builtin t => some (.bi t)
    | .ref a => (match K.lookup a with
      | some o => (match asTup o with
        | some xs => (match mapO (ofVal K n) xs with | some vs => some (.tup vs) | none => none)
        | none => some (.stat a))
      | none => none)
    | _ => none
def OV : Nat := 5
def glob (K : Frag) (x : Str) : Option V := match nsIn K mainGlobals x with
  | some (some v) => ofVal K OV v
  | some none => if x == ("__name__" : Str) then none else (match bootBuiltins x with | some v => ofVal K OV v | none => none)
  | none => none

def upd (x : Str) (v : V) : Loc → Loc
  | [] => [(x, v)]
  | (y, u) :: r => match x == y with
    | true => (y, v) :: r
    | false => (y, u) :: upd x v r

/-- the items of a list, made or of the top -/
def listOf (K : Frag) (H : Hp) : V → Option (List V)
  | .ref i => (match H[i]? with | some (.list xs) => some xs | _ => none)
  | .stat a => (match K.lookup a with
    | some o => (match asLst o with | some xs => mapO (ofVal K OV) xs | none => none)
    | none => none)
  | _ => none
def tupOf : V → Option (List V)
  | .tup vs => some vs
  | .own _ vs => some vs
  | _ => none

/-! arithmetic -/
def big : Int := 2 ^ 62
def intOp (op : Operator) (a b : Int) : Option Int := match op with
  | .Add => some (a + b)
  | .Sub => some (a - b)
  | .Mult => if a.natAbs < 2 ^ 63 ∧ b.natAbs < 2 ^ 63 then some (a * b) else none
  | .FloorDiv => if b = 0 then none else if b.natAbs < 1000000000 then some (a.fdiv b) else none
  | .Mod => if b = 0 then none else some (a.fmod b)
  | .LShift => if 0 ≤ b ∧ b ≤ 1000 ∧ a.natAbs < 2 ^ 64 then some (a * 2 ^ b.toNat) else none
  | .RShift => if 0 ≤ b then some (a.fdiv (2 ^ b.toNat)) else none
  | .BitAnd => some (Builtin.bitAnd a b)
  | .BitOr => some (Builtin.bitOr a b)
  | .BitXor => some (Builtin.bitXor a b)
  | .Pow => if 0 ≤ b ∧ b ≤ 60 ∧ a.natAbs < 2 ^ 16 then some (a ^ b.toNat) else none
  | _ => none

/-- list * n -/
def repeatL (xs : List V) : Nat → List V
  | 0 => []
  | n + 1 => xs ++ repeatL xs n

def allEq (f : V → V → Option Bool) : List V → List V → Option Bool
  | [], [] => some true
  | x :: xs, y :: ys => (match f x y with
    | some b => (match allEq f xs ys with | some c => some (b && c) | none => none)
    | none => none)
  | _, _ => none
def seqEq (f : V → V → Option Bool) (xs ys : List V) : Option Bool :=
  if xs.length = ys.length then allEq f xs ys else some false
def flat : V → Bool
  | .none | .bool _ | .int _ | .str _ => true
  | _ => false
def eqV (K : Frag) (H : Hp) : Nat → V → V → Option Bool
  | 0, _, _ => none
  | n + 1, a, b => match a, b with
    | .none, .none => some true
    | .bool x, .bool y => some (x == y)
    | .int x, .int y => some (x == y)
    | .str x, .str y => some (x == y)
    | .bytes x, .bytes y => some (x == y)
    | .bool x, .int y => some ((if x then 1 else 0) == y)
    | .int x, .bool y => some (x == (if y then 1 else 0))
    | .none, .bool _ | .none, .int _ | .none, .str _ | .bool _, .none | .int _, .none | .str _, .none => some false
    | .bool _, .str _ | .int _, .str _ | .str _, .bool _ | .str _, .int _ => some false
    | .tup xs, .tup ys => allEq (eqV K H n) xs ys
    | a, b => (match listOf K H a, listOf K H b with
      | some xs, some ys => seqEq (eqV K H n) xs ys
      | _, _ => none)
def ED : Nat := 5

def isV (K : Frag) : V → V → Option Bool
  | a, .none => some (match a with | .none => true | _ => false)
  | .stat a, .stat b => (match K.lookup a, K.lookup b with
    | some oa, some ob => (match asDct oa with | some _ => some (a == b) | none => none)
    | _, _ => none)
  | _, _ => none

def anyEq (f : V → Option Bool) : List V → Option Bool
  | [] => some false
  | x :: xs => (match f x with
    | some b => (match anyEq f xs with | some c => some (b || c) | none => none)
    | none => none)

def findK (k : Int) : List (Int × V) → Option V
  | [] => none
  | (x, v) :: r => if x = k then some v else findK k r
def statKV (K : Frag) : List DictEntry → Option (List (Int × V))
  | [] => some []
  | e :: r => (match e.key, ofVal K OV e.val, statKV K r with
    | .int k _, some v, some l => if e.hash = hashInt k then some ((k, v) :: l) else none
    | _, _, _ => none)
def dictOfV (K : Frag) (H : Hp) : V → Option (List (Int × V))
  | .ref i => (match H[i]? with | some (.dict kvs) => some kvs | _ => none)
  | .stat a => (match K.lookup a with
    | some o => (match asDct o with | some es => statKV K es | none => none)
    | none => none)
  | _ => none

def inV (K : Frag) (H : Hp) (x c : V) : Option Bool := match c with
  | .tup vs => anyEq (fun y => eqV K H ED y x) vs
  | .bytes b => (match x with | .int k => if 0 ≤ k ∧ k < 256 then some (b.contains k.toNat.toUInt8) else none | _ => none)
  | .ref i => (match listOf K H (.ref i) with
    | some vs => anyEq (fun y => eqV K H ED y x) vs
    | none => match x, dictOfV K H (.ref i) with
      | .int k, some kvs => some (findK k kvs).isSome
      | _, _ => none)
  | .stat a => (match listOf K H (.stat a) with
    | some vs => anyEq (fun y => eqV K H ED y x) vs
    | none => match x, dictOfV K H (.stat a) with
      | .int k, some kvs => if a = sysModules then none else some (findK k kvs).isSome
      | _, _ => none)
  | _ => none

def cmpV (K : Frag) (H : Hp) (op : CmpOp) (a b : V) : Option Bool := match op with
  | .Eq => eqV K H ED a b
  | .NotEq => (match eqV K H ED a b with | some r => some (!r) | none => none)
  | .Is => isV K a b
  | .IsNot => (match isV K a b with | some r => some (!r) | none => none)
  | .In => inV K H a b
  | .NotIn => (match inV K H a b with | some r => some (!r) | none => none)
  | .Lt => (match a, b with | .int x, .int y => some (decide (x < y)) | _, _ => none)
  | .LtE => (match a, b with | .int x, .int y => some (decide (x ≤ y)) | _, _ => none)
  | .Gt => (match a, b with | .int x, .int y => some (decide (y < x)) | _, _ => none)
  | .GtE => (match a, b with | .int x, .int y => some (decide (y ≤ x)) | _, _ => none)

def maxL : Nat := 1000000
def truthy (K : Frag) (H : Hp) : V → Option Bool
  | .none => some false
  | .bool b => some b
  | .int i => some (!(i == 0))
  | .str s => if s.cps.size ≤ maxL then some (s.cps.size != 0) else none
  | .bytes b => if b.size ≤ maxL then some (b.size != 0) else none
  | .tup vs => if vs.length ≤ maxL then some (!vs.isEmpty) else none
  | v => (match listOf K H v with | some xs => if xs.length ≤ maxL then some (!xs.isEmpty) else none | none => none)

def atI (xs : List V) (k : Int) : Option V :=
  if xs.length < 2 ^ 24 then (if 0 ≤ k then (if k < big then xs[k.toNat]? else none) else if 0 ≤ k + xs.length then xs[(k + xs.length).toNat]? else none) else none
def partO : V → Option (Option Int)
  | .none => some none
  | .int i => some (some i)
  | _ => none
def cut {α : Type} (xs : List α) (lo hi : Option Int) : List α :=
  (xs.drop (lo.elim 0 (clipAt xs.length))).take (hi.elim xs.length (clipAt xs.length) - lo.elim 0 (clipAt xs.length))

def getF (x : Str) : List (Str × V) → Option V
  | [] => none
  | (y, v) :: r => match x == y with | true => some v | false => getF x r

/-- how a class hands on a name of its instances -/
inductive AK where
  | field | prop (g : Addr) | const (v : V) | meth (f : Addr)
  deriving Inhabited
def attrKind (K : Frag) (C : Addr) (x : Str) : Option AK := if plainGet K C x && hasDictIn K C then (match findIn K (.ref C) x with
  | some none => some .field
  | some (some (.ref p)) => if fnIn K p && isFn K (.ref p) then some (.meth p) else (match recIn K p "property" with
    | some (.ref g :: _) => if specialIn K (.ref p) "__get__" == some (some (.builtin "property.__get__")) && takesIn K (.ref p) == some true && isFn K (.ref g) then some (.prop g) else none
    | _ => none)
  | some (some v) => if specialIn K v "__get__" == some none && handedIn v && !copiedNames.contains x then (match v, ofVal K 1 v with
    | .builtin _, _ => none
    | _, some u => some (.const u)
    | _, none => none) else none
  | none => none) else none
/-- how a name of an instance is set: in its dict, or by a property's setter -/
def setKind (K : Frag) (C : Addr) (x : Str) : Option (Option Addr) := if findIn K (.ref C) "__setattr__" == some (some (.builtin "object.__setattr__")) && plainOver K C && hasDictIn K C then (match takerIn K C x with
  | some none => some none
  | some (some (.ref p)) => if typeIn K (.ref p) == some (.type "property") then (match recIn K p "property" with
    | some (_ :: .ref g :: _) => if isFn K (.ref g) then some (some g) else none
    | _ => none) else none
  | _ => none) else none
/-- no built-in function comes out -/
def noBi : Option (V × Hp) → Option (V × Hp)
  | some (.bi _, _) => none
  | x => x
/-- a special method of a class -/
def methIn (K : Frag) (C : Addr) (x : Str) : Option Addr := match findIn K (.ref C) x with
  | some (some (.ref p)) => if fnIn K p && isFn K (.ref p) then some p else none
  | _ => none

structure Rec where
  ev : Scope → Loc → Loc → Expr → Hp → Option (V × Hp)
  tr : Scope → Loc → Loc → Expr → Hp → Option (Bool × Hp)
  ex : Scope → Loc → List Stmt → Hp → Option (Fl × Loc × Hp)
  call : V → List V → List (Str × V) → Hp → Option (V × Hp)

def next (K : Frag) (H : Hp) : It → Option (Option (V × It))
  | .lst i k => (match H[i]? with
    | some (.list xs) => (match xs[k]? with | some v => some (some (v, .lst i (k + 1))) | none => some none)
    | _ => none)
  | .seq [] => some none
  | .seq (v :: r) => some (some (v, .seq r))
  | .rng x left step => if 0 < left then some (some (.int x, .rng (x + step) (left - 1) step)) else some none
  | .zip a b => (match next K H a with
    | some none => some none
    | some (some (v, a')) => (match next K H b with
      | some none => some none
      | some (some (u, b')) => some (some (.tup [v, u], .zip a' b'))
      | none => none)
    | none => none)
  | .enum n a => (match next K H a with
    | some none => some none
    | some (some (v, a')) => some (some (.tup [.int n, v], .enum (n + 1) a'))
    | none => none)

def bytesL (b : Array UInt8) : List V := b.toList.map fun u => .int u.toNat

def iterOf (K : Frag) (H : Hp) : V → Option It
  | .ref i => (match H[i]? with | some (.list _) => some (.lst i 0) | _ => none)
  | .stat a => (match listOf K H (.stat a) with | some xs => some (.seq xs) | none => none)
  | .tup vs => some (.seq vs)
  | .rng a b c => if Builtin.Range.small a b c then some (.rng a (Builtin.Range.rangeSize a b c) c) else none
  | .bytes b => some (.seq (bytesL b))
  | .str s => some (.seq (s.cps.toList.map fun c => .str ⟨#[c]⟩))
  | _ => none

def forIt (K : Frag) (turn : V → Loc → Hp → Option (Fl × Loc × Hp)) : Nat → It → Loc → Hp → Option (Fl × Loc × Hp)
  | 0, _, _, _ => none
  | n + 1, it, ρ, H => match next K H it with
    | none => none
    | some none => some (.next, ρ, H)
    | some (some (v, it')) => match turn v ρ H with
      | some (.next, ρ', H') | some (.cont, ρ', H') => forIt K turn n it' ρ' H'
      | some (.brk, ρ', H') => some (.next, ρ', H')
      | some (.ret v, ρ', H') => some (.ret v, ρ', H')
      | none => none

def whileL (test : Loc → Hp → Option (Bool × Hp)) (body : Loc → Hp → Option (Fl × Loc × Hp)) : Nat → Loc → Hp → Option (Fl × Loc × Hp)
  | 0, _, _ => none
  | n + 1, ρ, H => match test ρ H with
    | none => none
    | some (false, H') => some (.next, ρ, H')
    | some (true, H') => match body ρ H' with
      | some (.next, ρ', H'') | some (.cont, ρ', H'') => whileL test body n ρ' H''
      | some (.brk, ρ', H'') => some (.next, ρ', H'')
      | some (.ret v, ρ', H'') => some (.ret v, ρ', H'')
      | none => none
/-- no loop turns more often -/
def LF : Nat := 100000

end Mini
namespace Mini
open PySem PySem.W PySem.W.X PySem.Calls PyProof.Rows

/-- the value of a name of a def or of what stands around it -/
def nameL (sc : Scope) (ρ φ : Loc) (x : Str) : Option V := match sc.names.lookup x with
  | some .cell => ρ.lookup x
  | some .free => φ.lookup x
  | _ => none
def nameV (K : Frag) (sc : Scope) (ρ φ : Loc) (x : Str) : Option V := match sc.names.lookup x with
  | some .local | some .cell => ρ.lookup x
  | some .free => if x == ("__classdict__" : Str) then none else φ.lookup x
  | some .globalImplicit => glob K x
  | _ => none
def freeOf (sc : Scope) (ρ φ : Loc) : List (Str × NameKind) → Loc
  | [] => []
  | (x, k) :: r => if k == .free then (match nameL sc ρ φ x with | some v => (x, v) :: freeOf sc ρ φ r | none => freeOf sc ρ φ r) else freeOf sc ρ φ r

def evs (f : Expr → Hp → Option (V × Hp)) : List Expr → Hp → Option (List V × Hp)
  | [], H => some ([], H)
  | e :: r, H => match f e H with
    | some (v, H') => (match evs f r H' with | some (vs, H'') => some (v :: vs, H'') | none => none)
    | none => none
def evk (f : Expr → Hp → Option (V × Hp)) : List Keyword → Hp → Option (List (Str × V) × Hp)
  | [], H => some ([], H)
  | ⟨some n, e, _⟩ :: r, H => (match f e H with
    | some (v, H') => (match evk f r H' with | some (vs, H'') => some ((n, v) :: vs, H'') | none => none)
    | none => none)
  | ⟨none, _, _⟩ :: _, _ => none

def putF (x : Str) (v : V) : List (Str × V) → List (Str × V)
  | [] => [(x, v)]
  | (y, u) :: r => match y == x with
    | true => (y, v) :: r
    | false => (y, u) :: putF x v r

def newL (xs : List V) (H : Hp) : Option (V × Hp) := if xs.length ≤ maxL then some (.ref H.length, H ++ [.list xs]) else none

/-- the fields of an instance that stands at the top -/
def statFs (K : Frag) : List DictEntry → Option (List (Str × V))
  | [] => some []
  | e :: r => (match e.key, ofVal K OV e.val, statFs K r with
    | .str x _, some v, some l => some ((x, v) :: l)
    | _, _, _ => none)
def statFields (K : Frag) (p : Addr) : Option (Addr × List (Str × V)) := match K.lookup p with
  | some ⟨.ref C, some d, .plain, _⟩ => (match K.lookup d with
    | some o => (match asDct o with
      | some es => (match statFs K es with | some fs => some (C, fs) | none => none)
      | none => none)
    | none => none)
  | _ => none
/-- a descriptor of the text's own, on a class over tuple: its place, its __get__ -/
def tupDescr (K : Frag) (C : Addr) (x : Str) : Option (Addr × Addr) := if plainGet K C x && isClsIn K C then (match findIn K (.ref C) x with
  | some (some (.ref p)) => (match specialIn K (.ref p) "__get__", K.lookup p with
    | some (some (.ref f)), some _ => if takesIn K (.ref p) == some true && isFn K (.ref f) then some (p, f) else none
    | _, _ => none)
  | _ => none) else none
def getAttr (K : Frag) (r : Rec) (o : V) (x : Str) (H : Hp) : Option (V × Hp) := match o with
  | .ref i => (match H[i]? with
    | some (.inst C fs) => (match attrKind K C x with
      | some .field => (match getF x fs with | some v => noBi (some (v, H)) | none => none)
      | some (.const v) => (match getF x fs with | some u => noBi (some (u, H)) | none => some (v, H))
      | some (.prop g) => noBi (r.call (.stat g) [.ref i] [] H)
      | _ => none)
    | _ => none)
  | .stat p => (match statFields K p with
    | some (C, fs) => (match attrKind K C x with
      | some .field => (match getF x fs with | some v => noBi (some (v, H)) | none => none)
      | _ => none)
    | none => none)
  | .own C vs => (match tupDescr K C x, K.lookup C with
    | some (p, f), some _ => noBi (r.call (.stat f) [.stat p, .own C vs, .stat C] [] H)
    | _, _ => none)
  | _ => none
def setAttr (K : Frag) (r : Rec) (o : V) (x : Str) (v : V) (H : Hp) : Option Hp := match o with
  | .ref i => (match H[i]? with
    | some (.inst C fs) => if fs.length < 900 then (match setKind K C x with
      | some none => some (H.set i (.inst C (putF x v fs)))
      | some (some g) => (match r.call (.stat g) [.ref i, v] [] H with | some (_, H') => some H' | none => none)
      | none => none) else none
    | _ => none)
  | _ => none

def strAt (s : Str) (k : Int) : Option V :=
  let n := s.cps.size
  if n < 2 ^ 24 then (if 0 ≤ k then (if k < big then (s.cps[k.toNat]?).map fun c => .str ⟨#[c]⟩ else none) else if 0 ≤ k + n then (s.cps[(k + n).toNat]?).map fun c => .str ⟨#[c]⟩ else none) else none

def bytesAt (b : Array UInt8) (k : Int) : Option V := if b.size ≤ maxL ∧ 0 ≤ k then (b[k.toNat]?).map fun u => .int u.toNat else none
def getItemL (K : Frag) (r : Rec) (o i : V) (H : Hp) : Option (V × Hp) := match listOf K H o with
    | some xs => (match i with
      | .int k => (match atI xs k with | some v => some (v, H) | none => none)
      | .slc lo hi => if xs.length ≤ maxL then newL (cut xs lo hi) H else none
      | .rvs => newL xs.reverse H
      | _ => none)
    | none => match o with
      | .ref n => (match H[n]? with
        | some (.inst C fs) => (match methIn K C "__getitem__" with
          | some f => if noSeq K C then r.call (.stat f) [.ref n, i] [] H else none
          | none => none)
        | _ => (match i, dictOfV K H (.ref n) with
          | .int k, some kvs => (match findK k kvs with | some v => some (v, H) | none => none)
          | _, _ => none))
      | .stat a => (match i, dictOfV K H (.stat a) with
          | .int k, some kvs => (match findK k kvs with | some v => some (v, H) | none => none)
          | _, _ => none)
      | _ => none
def getItem (K : Frag) (r : Rec) (o i : V) (H : Hp) : Option (V × Hp) := match o, i with
  | .tup vs, .int k => (match atI vs k with | some v => some (v, H) | none => none)
  | .tup vs, .slc lo hi => if vs.length ≤ maxL then some (.tup (cut vs lo hi), H) else none
  | .bytes b, .int k => (match bytesAt b k with | some v => some (v, H) | none => none)
  | .bytes b, .slc lo hi => if b.size ≤ maxL then some (.bytes (cut b.toList lo hi).toArray, H) else none
  | .str s, .int k => (match strAt s k with | some v => some (v, H) | none => none)
  | o, i => getItemL K r o i H

def setK (k : Int) (v : V) : List (Int × V) → List (Int × V)
  | [] => [(k, v)]
  | (x, u) :: r => if x = k then (x, v) :: r else (x, u) :: setK k v r
def setItem (o i v : V) (H : Hp) : Option Hp := match o, i with
  | .ref n, .int k => (match H[n]? with
    | some (.list xs) => if xs.length < 2 ^ 24 then (if 0 ≤ k then (if k.toNat < xs.length then some (H.set n (.list (xs.set k.toNat v))) else none) else none) else none
    | some (.dict kvs) => if kvs.length < 900 then some (H.set n (.dict (setK k v kvs))) else none
    | _ => none)
  | _, _ => none

def binop (K : Frag) (r : Rec) (op : Operator) (a b : V) (H : Hp) : Option (V × Hp) := match a, b with
  | .int x, .int y => (match intOp op x y with | some z => some (.int z, H) | none => none)
  | .str x, .str y => (match op with | .Add => if x.length + y.length ≤ maxL then some (.str (x ++ y), H) else none | _ => none)
  | .bytes x, .bytes y => (match op with | .Add => if x.size + y.size ≤ maxL then some (.bytes (x ++ y), H) else none | _ => none)
  | a, .int n => (match op, listOf K H a with
    | .Mult, some xs => if -100000 ≤ n ∧ n ≤ 100000 then newL (repeatL xs n.toNat) H else none
    | _, _ => none)
  | a, b => (match op, listOf K H a, listOf K H b with
    | .Add, some xs, some ys => newL (xs ++ ys) H
    | .Mod, none, _ => (match a with
      | .ref i => (match H[i]? with
        | some (.inst C fs) => (match b with
          | .ref j => (match H[j]? with
            | some (.inst C' _) => if C = C' && selfFirst K C then (match methIn K C "__mod__" with | some f => r.call (.stat f) [a, b] [] H | _ => none) else none
            | _ => none)
          | _ => none)
        | _ => none)
      | _ => none)
    | _, _, _ => none)
def inop (K : Frag) (r : Rec) (op : Operator) (a b : V) (H : Hp) : Option (V × Hp) := match op, a, listOf K H b with
  | .Add, .ref i, some ys => (match H[i]? with
    | some (.list xs) => if xs.length + ys.length ≤ maxL then some (.ref i, H.set i (.list (xs ++ ys))) else none
    | _ => none)
  | _, .int x, _ => (match b with | .int y => (match intOp op x y with | some z => some (.int z, H) | none => none) | _ => none)
  | _, _, _ => none

end Mini
namespace Mini
open PySem PySem.W PySem.W.X PySem.Calls PyProof.Rows

def isinst (K : Frag) (H : Hp) (v : V) (t : V) : Option Bool := match t with
  | .type n => if n == "bytes" then (match v with | .bytes _ => some true | _ => none) else none
  | .stat C => (match v with
    | .ref i => (match H[i]? with
      | some (.inst D _) => if C = D then some true else none
      | _ => none)
    | _ => none)
  | _ => none

def bytesOf : List V → Option (List UInt8)
  | [] => some []
  | .int k :: r => if 0 ≤ k ∧ k < 256 then (match bytesOf r with | some l => some (UInt8.ofNat k.toNat :: l) | none => none) else none
  | _ :: _ => none
def intsOf : List V → Option (List Int)
  | [] => some []
  | .int k :: r => (match intsOf r with | some l => some (k :: l) | none => none)
  | _ :: _ => none
def maxI : List Int → Option Int
  | [] => none
  | x :: r => some (r.foldl max x)

/-- bisect_left over a list of ints -/
def bisectGo (xs : List Int) (x : Int) : Nat → Nat → Nat → Option Nat
  | 0, _, _ => none
  | n + 1, lo, hi => if lo < hi then (match xs[(lo + hi) / 2]? with
    | some y => if y < x then bisectGo xs x n ((lo + hi) / 2 + 1) hi else bisectGo xs x n lo ((lo + hi) / 2)
    | none => none) else some lo

def digitsOf (b : List Nat) : Option Int :=
  if b.isEmpty || 100 < b.length || !b.all (fun u => 48 ≤ u && u ≤ 57) then none else some (NumText.digitsVal b : Nat)
def isDigits (b : List UInt8) : Bool := !b.isEmpty && b.all fun u => 48 ≤ u.toNat && u.toNat ≤ 57
/-- the first place of a byte -/
def findB (k : Nat) : Nat → List UInt8 → Int
  | _, [] => -1
  | i, u :: r => if u.toNat = k then i else findB k (i + 1) r

def lenV (K : Frag) (H : Hp) (v : V) : Option Nat := match v with
  | .bytes b => some b.size
  | .str s => some s.cps.size
  | .tup vs => some vs.length
  | .ref i => (match listOf K H (.ref i) with | some xs => some xs.length | none => none)
  | .stat a => (match listOf K H (.stat a) with | some xs => some xs.length | none => none)
  | _ => none

/-- a built-in, called by place -/
def bcall (K : Frag) (r : Rec) (id : String) (args : List V) (H : Hp) : Option (V × Hp) := match args with
  | [a] =>
    if id == "len" then (match lenV K H a with
      | some n => if n < 2 ^ 40 then some (.int n, H) else none
      | none => match a with
        | .ref i => (match H[i]? with
          | some (.inst C _) => (match methIn K C "__len__" with
            | some f => (match r.call (.stat f) [a] [] H with | some (.int n, H') => if 0 ≤ n ∧ n < big then some (.int n, H') else none | _ => none)
            | _ => none)
          | _ => none)
        | _ => none)
    else none
  | [a, b] =>
    if id == "isinstance" then (match isinst K H a b with | some t => some (.bool t, H) | none => none)
    else none
  | [a, b, c] =>
    if id == "_bisect.bisect_left" then (match listOf K H a, b, c with
      | some xs, .int x, .int lo => (match intsOf xs with
        | some ns => if 0 ≤ lo ∧ lo < 10000 ∧ ns.length < 10000 then (match bisectGo ns x 64 lo.toNat ns.length with | some m => some (.int m, H) | none => none) else none
        | none => none)
      | _, _, _ => none)
    else none
  | _ => none

def tcall (K : Frag) (t : String) (args : List V) (H : Hp) : Option (V × Hp) := match args with
  | [a] =>
    if t == "range" then (match a with | .int n => some (.rng 0 n 1, H) | _ => none)
    else if t == "int" then (match a with
      | .int n => some (.int n, H)
      | .str s => (match digitsOf s.cps.toList with | some n => some (.int n, H) | none => none)
      | _ => none)
    else if t == "bytes" then (match listOf K H a with
      | some xs => if xs.length ≤ maxL then (match bytesOf xs with | some l => some (.bytes l.toArray, H) | none => none) else none
      | none => none)
    else none
  | [a, b] => if t == "range" then (match a, b with | .int x, .int y => some (.rng x y 1, H) | _, _ => none) else none
  | [a, b, c] => if t == "range" then (match a, b, c with | .int x, .int y, .int z => if z = 0 ∨ 1000000000 ≤ z.natAbs then none else some (.rng x y z, H) | _, _, _ => none) else none
  | _ => none

/-- a class of the text's own over tuple, with a __new__ in Python -/
def tupClass (K : Frag) (C : Addr) : Bool := match clsIn K C with
  | some cd => cd.mro == [.ref C, .type "tuple", .type "object"] && !cd.hasDict && !cd.hasDel && !cd.abstract
  | none => false
def newFn (K : Frag) (C : Addr) : Option Addr := match findIn K (.ref C) "__new__" with
  | some (some (.ref p)) => (match recIn K p "staticmethod" with
    | some (.ref f :: _) => if fnIn K f then some f else none
    | _ => none)
  | _ => none
/-- a method of a built-in type: where its name leads; whether self goes ahead -/
def bmOf (H : Hp) (o : V) (name : Str) : Option (String × Bool) := match o with
  | .ref i => (match H[i]? with
    | some (.list _) => if name == ("append" : Str) then some ("list.append", true) else none
    | _ => none)
  | .bytes _ => if name == ("isdigit" : Str) then some ("bytes.isdigit", true) else if name == ("find" : Str) then some ("bytes.find", true) else if name == ("decode" : Str) then some ("bytes.decode", true) else none
  | _ => none
/-- it is called -/
def mcall (K : Frag) (id : String) (args : List V) (H : Hp) : Option (V × Hp) := match args with
  | [.ref i, v] => if id == "list.append" then (match H[i]? with
    | some (.list xs) => if xs.length ≤ maxL then some (.none, H.set i (.list (xs ++ [v]))) else none
    | _ => none) else none
  | [.bytes b] => if id == "bytes.isdigit" then some (.bool (isDigits b.toList), H) else none
  | [.bytes b, .bytes c] => if id == "bytes.find" then (if c.size = 1 ∧ b.size < 1000 then some (.int (findB (c.getD 0 0).toNat 0 b.toList), H) else none) else none
  | [.bytes b, .str e] => if id == "bytes.decode" then (if e == ("ascii" : Str) && !b.isEmpty && b.size ≤ 3 && b.toList.all (fun u => u.toNat < 128) then some (.str ⟨b.map UInt8.toNat⟩, H) else none) else none
  | _ => none

/-- arguments by keyword -/
def addKw {α : Type} (names : List Str) : List (Str × α) → List (Str × α) → Option (List (Str × α))
  | [], sl => some sl
  | (k, v) :: r, sl => match names.contains k, sl.lookup k with
    | true, none => addKw names r (sl ++ [(k, v)])
    | _, _ => none
/-- arguments by default -/
def addDf {α : Type} : List (Str × α) → List (Str × α) → List (Str × α)
  | [], sl => sl
  | (k, d) :: r, sl => match sl.lookup k with
    | some _ => addDf r sl
    | none => addDf r (sl ++ [(k, d)])
def bindG {α : Type} (names : List Str) (ds args : List α) (kw : List (Str × α)) : Option (List (Str × α)) :=
  if args.length ≤ names.length ∧ ds.length ≤ names.length then (match addKw names kw (names.zip args) with
    | some sl => if (names.take (names.length - ds.length)).all (fun n => (sl.lookup n).isSome) then some (names.filterMap fun n => ((addDf ((names.drop (names.length - ds.length)).zip ds) sl).lookup n).map fun v => (n, v)) else none
    | none => none) else none
def dfltsOf (K : Frag) (dV : Value) : Option (List V) := match dV with
  | .none => some []
  | .ref a => (match K.lookup a with
    | some o => (match asTup o with | some xs => mapO (ofVal K OV) xs | none => none)
    | none => none)
  | _ => none
def nodupS : List Str → Bool
  | [] => true
  | x :: r => !r.contains x && nodupS r
/-- a def's arguments -/
def binds (K : Frag) (ps : Arguments) (dV : Value) (args : List V) (kw : List (Str × V)) : Option Loc :=
  if ps.vararg.isNone && ps.kwarg.isNone && ps.kwonlyargs.isEmpty && ps.posonlyargs.isEmpty && nodupS (ps.args.map (·.arg)) then
    (match dfltsOf K dV with
    | some ds => bindG (ps.args.map (·.arg)) ds args kw
    | none => none)
  else none

def fnOk (K : Frag) (fd : FuncData) : Bool := fd.scope.kind == .function && !fd.scope.isGenerator && !fd.scope.isCoroutine && fd.closure.isEmpty && fd.globals == mainGlobals && fd.builtins == builtinsNs && codeIn K fd.code fd.qualname
def allLocal (sc : Scope) (l : Loc) : Bool := l.all fun p => match sc.names.lookup p.1 with | some .local | some .cell => true | _ => false

def callFn (K : Frag) (r : Rec) (fd : FuncData) (args : List V) (kw : List (Str × V)) (H : Hp) : Option (V × Hp) :=
  if fnOk K fd then (match fd.body, binds K fd.params fd.defaults args kw with
    | .stmts b, some ρ => if allLocal fd.scope ρ && nodupS (ρ.map (·.1)) then (match r.ex fd.scope ρ b H with
      | some (.ret v, _, H') => some (v, H')
      | some (.next, _, H') => some (.none, H')
      | _ => none) else none
    | _, _ => none)
  else none

def stepCall (K : Frag) (r : Rec) (f : V) (args : List V) (kw : List (Str × V)) (H : Hp) : Option (V × Hp) := match f with
  | .stat a => (match K.lookup a with
    | some ⟨_, _, .func fd, _⟩ => callFn K r fd args kw H
    | some ⟨_, _, .cls _, _⟩ => if makesIn K a then (match methIn K a "__init__" with
        | some fI => (match r.call (.stat fI) (.ref H.length :: args) kw (H ++ [.inst a []]) with
          | some (.none, H') => some (.ref H.length, H')
          | _ => none)
        | _ => none) else none
    | _ => none)
  | _ => none
/-- a call of whatever stands ahead -/
def callV (K : Frag) (r : Rec) (f : V) (args : List V) (kw : List (Str × V)) (H : Hp) : Option (V × Hp) := match f with
  | .bi id => if kw.isEmpty then bcall K r id args H else none
  | .type t => if kw.isEmpty then tcall K t args H else none
  | .stat a => if keepIn K (.ref a) then r.call (.stat a) args kw H else none
  | _ => none

/-- an iterable in a loop's head -/
def itOf (K : Frag) (r : Rec) (v : V) (H : Hp) : Option (It × Hp) := match iterOf K H v with | some it => some (it, H) | none => none
def evItP (K : Frag) (r : Rec) (sc : Scope) (ρ φ : Loc) (e : Expr) (H : Hp) : Option (It × Hp) := match r.ev sc ρ φ e H with
    | some (v, H') => itOf K r v H'
    | none => none
def evIt (K : Frag) (r : Rec) (sc : Scope) (ρ φ : Loc) (e : Expr) (H : Hp) : Option (It × Hp) :=
  match e with
  | .Set .. => none
  | e => evItP K r sc ρ φ e H

def stores (sc : Scope) (x : Str) : Bool := match sc.names.lookup x with | some .local | some .cell => true | _ => false
def asg1 (K : Frag) (r : Rec) (sc : Scope) (φ : Loc) (t : Expr) (v : V) (ρ : Loc) (H : Hp) : Option (Loc × Hp) := match t with
  | .Name x _ => if stores sc x then some (upd x v ρ, H) else none
  | .Attribute o a _ => (match r.ev sc ρ φ o H with
    | some (ov, H') => (match setAttr K r ov a v H' with | some H'' => some (ρ, H'') | none => none)
    | none => none)
  | .Subscript o i _ => (match r.ev sc ρ φ o H with
    | some (ov, H') => (match r.ev sc ρ φ i H' with
      | some (iv, H'') => (match setItem ov iv v H'' with | some H3 => some (ρ, H3) | none => none)
      | none => none)
    | none => none)
  | _ => none
def asgs (f : Expr → V → Loc → Hp → Option (Loc × Hp)) : List Expr → List V → Loc → Hp → Option (Loc × Hp)
  | [], [], ρ, H => some (ρ, H)
  | t :: ts, v :: vs, ρ, H => (match f t v ρ H with | some (ρ', H') => asgs f ts vs ρ' H' | none => none)
  | _, _, _, _ => none
/-- just n items -/
def drawV (K : Frag) (H : Hp) : Nat → It → Option (List V)
  | 0, it => (match next K H it with | some none => some [] | _ => none)
  | n + 1, it => (match next K H it with
    | some (some (v, it')) => (match drawV K H n it' with | some vs => some (v :: vs) | none => none)
    | _ => none)
def unpackV (K : Frag) (H : Hp) (v : V) (n : Nat) : Option (List V) := match v with
  | .tup vs => drawV K H n (.seq vs)
  | .ref i => (match iterOf K H (.ref i) with | some it => drawV K H n it | none => none)
  | _ => none
def isStar : Expr → Bool
  | .Starred .. => true
  | _ => false
def asg (K : Frag) (r : Rec) (sc : Scope) (φ : Loc) (t : Expr) (v : V) (ρ : Loc) (H : Hp) : Option (Loc × Hp) := match t with
  | .Tuple ts _ _ => if ts.any isStar then none else (match unpackV K H v ts.length with
    | some vs => asgs (asg1 K r sc φ) ts vs ρ H
    | none => none)
  | t => asg1 K r sc φ t v ρ H

def allTr (f : Expr → Hp → Option (Bool × Hp)) : List Expr → Hp → Option (Bool × Hp)
  | [], H => some (true, H)
  | e :: r, H => match f e H with
    | some (true, H') => allTr f r H'
    | some (false, H') => some (false, H')
    | none => none
def anyTr (f : Expr → Hp → Option (Bool × Hp)) : List Expr → Hp → Option (Bool × Hp)
  | [], H => some (false, H)
  | e :: r, H => match f e H with
    | some (false, H') => anyTr f r H'
    | some (true, H') => some (true, H')
    | none => none

/-- a turn of a comprehension -/
def compTurnV (K : Frag) (r : Rec) (sc : Scope) (φ : Loc) (elt : Expr) (g : Comprehension) (i : Nat) (v : V) (ρ : Loc) (H : Hp) : Option (Fl × Loc × Hp) :=
  match asg K r sc φ g.target v ρ H with
  | some (ρ', H1) => (match allTr (r.tr sc ρ' φ) g.ifs H1 with
    | some (false, H2) => some (.next, ρ', H2)
    | some (true, H2) => (match r.ev sc ρ' φ elt H2 with
      | some (u, H3) => (match H3[i]? with
        | some (.list xs) => if xs.length ≤ maxL then some (.next, ρ', H3.set i (.list (xs ++ [u]))) else none
        | _ => none)
      | none => none)
    | none => none)
  | none => none
def compOk (sc : Scope) (ρ φ : Loc) (sc' : Scope) : Bool := sc'.kind == .function && sc'.names.all (fun p => !(p.2 == .cell) && (!(p.2 == .free) || (nameL sc ρ φ p.1).isSome) && (!(p.2 == .local) || sc'.names.lookup p.1 == some .local))
def compV (K : Frag) (r : Rec) (sc : Scope) (ρ φ : Loc) (elt : Expr) (g : Comprehension) (sc' : Scope) (H : Hp) : Option (V × Hp) :=
  if compOk sc ρ φ sc' && g.is_async == 0 then
    match evIt K r sc ρ φ g.iter H with
    | some (it, H1) => (match forIt K (compTurnV K r sc' (freeOf sc ρ φ sc'.names) elt g H1.length) LF it [] (H1 ++ [.list []]) with
      | some (.next, _, H2) => some (.ref H1.length, H2)
      | _ => none)
    | none => none
  else none

/-- all(x in NAME for x in bytes): the text's one question of the kind -/
def genOk (f x y z d : Str) (sc' : Scope) : Bool := x == z && sc'.kind == .function && !sc'.isCoroutine && sc'.names.all (fun p => !(p.2 == .cell) && !(p.2 == .free)) && sc'.names.lookup (".0" : Str) == some .local && sc'.names.lookup x == some .local && sc'.names.lookup y == some .globalImplicit &&
  !(f == ("__debug__" : Str)) && !(x == ("__debug__" : Str)) && !(y == ("__debug__" : Str)) && !(d == ("__debug__" : Str))
def genV (K : Frag) (sc : Scope) (ρ φ : Loc) (f : Str) (elt : Expr) (g : Comprehension) (sc' : Scope) (H : Hp) : Option (V × Hp) := match elt, g with
  | .Compare (.Name x _) [.In] [.Name y _] _, ⟨.Name z _, .Name d _, [], 0⟩ =>
    if genOk f x y z d sc' then
      (match nameV K sc ρ φ d, nsIn K mainGlobals y with
      | some (.bytes b), some (some (.bytes a _)) => some (.bool (b.toList.all fun u => a.contains u), H)
      | _, _ => none)
    else none
  | _, _ => none

def chain (K : Frag) (f : Expr → Hp → Option (V × Hp)) (left : V) : List CmpOp → List Expr → Hp → Option (Bool × Hp)
  | [op], [e], H => (match f e H with
    | some (v, H') => (match cmpV K H' op left v with | some b => some (b, H') | none => none)
    | none => none)
  | op :: ops, e :: es, H => (match f e H with
    | some (v, H') => (match cmpV K H' op left v with
      | some true => chain K f v ops es H'
      | some false => some (false, H')
      | none => none)
    | none => none)
  | _, _, _ => none
/-- x in {written ints} -/
def inSet : List Expr → Int → Option Bool
  | [], _ => some false
  | .Constant (.int k) _ _ :: r, x => (match inSet r x with | some b => some (x == k || b) | none => none)
  | _, _ => none
def isSetE : Expr → Option (List Expr)
  | .Set es _ _ => some es
  | _ => none
def isSetX : Expr → Bool
  | .Set .. => true
  | _ => false
def compareV (K : Frag) (f : Expr → Hp → Option (V × Hp)) (l : Expr) (ops : List CmpOp) (rs : List Expr) (H : Hp) : Option (Bool × Hp) :=
  match f l H with
  | some (v, H') => if rs.any isSetX then none else chain K f v ops rs H'
  | none => none

def boolV (K : Frag) (op : BoolOp) (f : Expr → Hp → Option (V × Hp)) : List Expr → Hp → Option (V × Hp)
  | [], _ => none
  | [e], H => f e H
  | e :: r, H => match f e H with
    | some (v, H') => (match truthy K H' v with
      | some t => (match op, t with
        | .And, false | .Or, true => some (v, H')
        | _, _ => boolV K op f r H')
      | none => none)
    | none => none

def constV : Const → Option V
  | .none => some .none
  | .bool b => some (.bool b)
  | .int i => some (.int i)
  | .str s => some (.str s)
  | .bytes b => some (.bytes b.toArray)
  | _ => none

def partE (f : Expr → Hp → Option (V × Hp)) : Option Expr → Hp → Option (Option Int × Hp)
  | none, H => some (none, H)
  | some e, H => (match f e H with
    | some (v, H') => (match partO v with | some k => some (k, H') | none => none)
    | none => none)

/-- where o.name leads, ahead of a call -/
inductive MR where
  | fn (f : Addr) | bm (id : String) (self : Bool)
def methRes (K : Frag) (H : Hp) (o : V) (name : Str) : Option MR := match o with
  | .ref i => (match H[i]? with
    | some (.inst C fs) => (match attrKind K C name with
      | some (.meth f) => (match getF name fs with | none => if keepIn K (.ref f) then some (.fn f) else none | some _ => none)
      | _ => none)
    | _ => (match bmOf H o name with | some (id, b) => some (.bm id b) | none => none))
  | _ => (match bmOf H o name with | some (id, b) => some (.bm id b) | none => none)
def plainBase : Expr → Bool
  | .Call (.Name id _) [] [] _ => id != "super"
  | _ => true

def callOk (o : Expr) (args : List Expr) (kws : List Keyword) (apos pos : Pos) : Bool := plainBase o && !args.any isStar && decide (args.length + kws.length + (if kws.isEmpty then 0 else 1) < 30) && apos.endLine == pos.line
def stepEv (K : Frag) (r : Rec) (sc : Scope) (ρ φ : Loc) (e : Expr) (H : Hp) : Option (V × Hp) := match e with
  | .Constant c _ _ => (match constV c with | some v => some (v, H) | none => none)
  | .Name x _ => if x == ("__debug__" : Str) then none else (match nameV K sc ρ φ x with | some v => some (v, H) | none => none)
  | .BoolOp op es _ => boolV K op (r.ev sc ρ φ) es H
  | .BinOp a op b _ => (match r.ev sc ρ φ a H with
    | some (x, H1) => (match r.ev sc ρ φ b H1 with
      | some (y, H2) => binop K r op x y H2
      | none => none)
    | none => none)
  | .UnaryOp op x _ => (match r.ev sc ρ φ x H with
    | some (v, H') => (match op with
      | .Not => (match truthy K H' v with | some b => some (.bool (!b), H') | none => none)
      | .USub => (match v with | .int i => some (.int (-i), H') | _ => none)
      | _ => none)
    | none => none)
  | .IfExp t a b _ => (match r.tr sc ρ φ t H with
    | some (true, H') => r.ev sc ρ φ a H'
    | some (false, H') => r.ev sc ρ φ b H'
    | none => none)
  | .List es _ => if es.any isStar then none else (match evs (r.ev sc ρ φ) es H with | some (vs, H') => newL vs H' | none => none)
  | .Tuple es _ _ => if es.any isStar then none else (match evs (r.ev sc ρ φ) es H with | some (vs, H') => if vs.length ≤ maxL then some (.tup vs, H') else none | none => none)
  | .Dict [] [] _ => some (.ref H.length, H ++ [.dict []])
  | .ListComp elt [g] sc' _ => compV K r sc ρ φ elt g sc' H
  | .Compare l ops rs _ => (match compareV K (r.ev sc ρ φ) l ops rs H with | some (b, H') => some (.bool b, H') | none => none)
  | .Call (.Attribute o name apos) args kws pos => if callOk o args kws apos pos then (match r.ev sc ρ φ o H with
    | some (ov, H1) => (match methRes K H1 ov name with
      | some m => (match evs (r.ev sc ρ φ) args H1 with
        | some (vs, H2) => (match evk (r.ev sc ρ φ) kws H2 with
          | some (kv, H3) => (match m with
            | .fn f => r.call (.stat f) (ov :: vs) kv H3
            | .bm id b => if kv.isEmpty then mcall K id (if b then ov :: vs else vs) H3 else none)
          | none => none)
        | none => none)
      | none => none)
    | none => none) else none
  | .Call (.Name f p) [.GeneratorExp elt [g] sc' gp] [] _ => (match nameV K sc ρ φ f with
    | some (.bi "all") => genV K sc ρ φ f elt g sc' H
    | _ => none)
  | .Call f args kws _ => if args.any isStar then none else (match r.ev sc ρ φ f H with
    | some (fv, H1) => (match evs (r.ev sc ρ φ) args H1 with
      | some (vs, H2) => (match evk (r.ev sc ρ φ) kws H2 with
        | some (kv, H3) => callV K r fv vs kv H3
        | none => none)
      | none => none)
    | none => none)
  | .Attribute o name _ => if plainBase o then (match r.ev sc ρ φ o H with
    | some (ov, H') => getAttr K r ov name H'
    | none => none) else none
  | .Subscript o i _ => (match r.ev sc ρ φ o H with
    | some (ov, H1) => (match r.ev sc ρ φ i H1 with
      | some (iv, H2) => getItem K r ov iv H2
      | none => none)
    | none => none)
  | .Slice lo hi none _ => (match partE (r.ev sc ρ φ) lo H with
    | some (a, H1) => (match partE (r.ev sc ρ φ) hi H1 with
      | some (b, H2) => some (.slc a b, H2)
      | none => none)
    | none => none)
  | .Slice none none (some st) _ => (match r.ev sc ρ φ st H with
    | some (.int k, H') => if k = -1 then some (.rvs, H') else none
    | _ => none)
  | _ => none

def stepTr (K : Frag) (r : Rec) (sc : Scope) (ρ φ : Loc) (e : Expr) (H : Hp) : Option (Bool × Hp) := match e with
  | .UnaryOp .Not x _ => (match r.tr sc ρ φ x H with | some (b, H') => some (!b, H') | none => none)
  | .BoolOp .And es _ => allTr (r.tr sc ρ φ) es H
  | .BoolOp .Or es _ => anyTr (r.tr sc ρ φ) es H
  | .IfExp t a b _ => (match r.tr sc ρ φ t H with
    | some (true, H') => r.tr sc ρ φ a H'
    | some (false, H') => r.tr sc ρ φ b H'
    | none => none)
  | .Compare l ops rs _ => compareV K (r.ev sc ρ φ) l ops rs H
  | e => (match r.ev sc ρ φ e H with
    | some (v, H') => (match truthy K H' v with | some b => some (b, H') | none => none)
    | none => none)

/-- two or three names stored at once, last first -/
def swapped (sc : Scope) (t : Expr) (value : Expr) : Option (Option (List Str)) := match t, value with
  | .Tuple ts _ _, .Tuple vs _ _ =>
    if !(ts.length == 2 || ts.length == 3) || vs.length != ts.length then some none else
    if vs.any (fun e => match e with | .Starred .. => true | _ => false) then some none else
    let line := (ts.head?.map (·.pos.line)).getD 0
    let names := ts.filterMap fun e => match e with
      | .Name id pos => if sc.names.lookup id == some .local && pos.line == line then some id else none
      | _ => none
    if names.length != ts.length || names.eraseDups.length != names.length then some none else
    if vs.all (foldedForSure 8) then some none else
    if vs.all (constantsAlone 8) then none else some (some names)
  | .List .., _ => none
  | _, _ => some none
def storeFwd : List Str → List V → Loc → Option Loc
  | [], [], ρ => some ρ
  | x :: xs, v :: vs, ρ => storeFwd xs vs (upd x v ρ)
  | _, _, _ => none
def storeRev (names : List Str) (vs : List V) (ρ : Loc) : Option Loc := storeFwd names.reverse vs.reverse ρ

def exs (f : Stmt → Loc → Hp → Option (Fl × Loc × Hp)) : List Stmt → Loc → Hp → Option (Fl × Loc × Hp)
  | [], ρ, H => some (.next, ρ, H)
  | s :: r, ρ, H => match f s ρ H with
    | some (.next, ρ', H') => exs f r ρ' H'
    | x => x

def isSlice : Expr → Bool
  | .Slice .. => true
  | _ => false
def step1 (K : Frag) (r : Rec) (sc : Scope) (s : Stmt) (ρ : Loc) (H : Hp) : Option (Fl × Loc × Hp) := match s with
  | .Expr e _ => (match e with
    | .ListComp .. | .SetComp .. | .DictComp .. => none
    | e => (match r.ev sc ρ [] e H with | some (_, H') => some (.next, ρ, H') | none => none))
  | .Pass _ => some (.next, ρ, H)
  | .Break _ => some (.brk, ρ, H)
  | .Continue _ => some (.cont, ρ, H)
  | .Return none _ => some (.ret .none, ρ, H)
  | .Return (some e) _ => (match r.ev sc ρ [] e H with | some (v, H') => some (.ret v, ρ, H') | none => none)
  | .Assign [t] value _ => (match value with
    | .ListComp elt [g] sc' _ => (match compV K r sc ρ [] elt g sc' H with
      | some (v, H') => (match asg K r sc [] t v ρ H' with | some (ρ', H'') => some (.next, ρ', H'') | none => none)
      | none => none)
    | .ListComp .. | .SetComp .. | .DictComp .. => none
    | value => (match swapped sc t value with
      | some none => (match r.ev sc ρ [] value H with
        | some (v, H') => (match asg K r sc [] t v ρ H' with | some (ρ', H'') => some (.next, ρ', H'') | none => none)
        | none => none)
      | some (some names) => (match r.ev sc ρ [] value H with
        | some (.tup vs, H') => if vs.length = names.length then (match storeRev names vs ρ with | some ρ' => some (.next, ρ', H') | none => none) else none
        | _ => none)
      | none => none))
  | .AugAssign (.Name x _) op value _ => (match nameV K sc ρ [] x with
    | some old => (match r.ev sc ρ [] value H with
      | some (v, H1) => (match inop K r op old v H1 with
        | some (new, H2) => if stores sc x then some (.next, upd x new ρ, H2) else none
        | none => none)
      | none => none)
    | none => none)
  | .AugAssign (.Attribute o a _) op value _ => (match r.ev sc ρ [] o H with
    | some (ov, H1) => (match getAttr K r ov a H1 with
      | some (old, H2) => (match r.ev sc ρ [] value H2 with
        | some (v, H3) => (match inop K r op old v H3 with
          | some (new, H4) => (match setAttr K r ov a new H4 with | some H5 => some (.next, ρ, H5) | none => none)
          | none => none)
        | none => none)
      | none => none)
    | none => none)
  | .AugAssign (.Subscript o i _) op value _ => if isSlice i then none else (match r.ev sc ρ [] o H with
    | some (ov, H1) => (match r.ev sc ρ [] i H1 with
      | some (.int iv, H2) => (match getItem K r ov (.int iv) H2 with
        | some (old, H3) => (match r.ev sc ρ [] value H3 with
          | some (v, H4) => (match inop K r op old v H4 with
            | some (new, H5) => (match setItem ov (.int iv) new H5 with | some H6 => some (.next, ρ, H6) | none => none)
            | none => none)
          | none => none)
        | none => none)
      | _ => none)
    | none => none)
  | .If t a b _ => (match r.tr sc ρ [] t H with
    | some (true, H') => r.ex sc ρ a H'
    | some (false, H') => r.ex sc ρ b H'
    | none => none)
  | .While t body [] _ => whileL (fun ρ H => r.tr sc ρ [] t H) (fun ρ H => r.ex sc ρ body H) LF ρ H
  | .For t iter body [] _ => (match evIt K r sc ρ [] iter H with
    | some (it, H1) => forIt K (fun v ρ H => match asg K r sc [] t v ρ H with
        | some (ρ', H') => r.ex sc ρ' body H'
        | none => none) LF it ρ H1
    | none => none)
  | _ => none

def step (K : Frag) (r : Rec) : Rec where
  ev := stepEv K r
  tr := stepTr K r
  ex := fun sc ρ body H => exs (step1 K r sc) body ρ H
  call := stepCall K r
def run (K : Frag) : Nat → Rec
  | 0 => ⟨fun _ _ _ _ _ => none, fun _ _ _ _ _ => none, fun _ _ _ _ => none, fun _ _ _ _ => none⟩
  | n + 1 => step K (run K n)
end Mini
namespace Mini
open PySem PySem.W PySem.W.X PySem.Calls PyProof.Rows

/-- room for n more levels -/
structure Rm (n : Nat) (A : Around) : Prop where
  depth : A.depth + 3 * n < 1000
  units : A.units + 45 * n < 9900
  handled : A.handled = none
theorem Rm.less {n : Nat} {A : Around} (h : Rm (n + 1) A) : Rm n A := ⟨by have := h.depth; omega, by have := h.units; omega, h.handled⟩
theorem Rm.in1 {n : Nat} {A : Around} (h : Rm (n + 1) A) : Rm n A.in1 := ⟨by have := h.depth; show A.depth + _ < _; omega, by have := h.units; show A.units + 1 + _ < _; omega, h.handled⟩
theorem Rm.in2 {n : Nat} {A : Around} (h : Rm (n + 1) A) : Rm n A.in1.in1 := ⟨by have := h.depth; show A.depth + _ < _; omega, by have := h.units; show A.units + 1 + 1 + _ < _; omega, h.handled⟩
theorem Rm.in3 {n : Nat} {A : Around} (h : Rm (n + 1) A) : Rm n A.in1.in1.in1 := ⟨by have := h.depth; show A.depth + _ < _; omega, by have := h.units; show A.units + 1 + 1 + 1 + _ < _; omega, h.handled⟩
theorem Rm.deeper {n : Nat} {A : Around} {env : Env} (h : Rm (n + 1) A) : Rm n (A.deeper env) := ⟨by have := h.depth; show A.depth + 1 + _ < _; omega, by have := h.units; show A.units + 3 + _ < _; omega, h.handled⟩

/-- the tree gives what the small language gives -/
def Sm (B : Base) (A : Around) (W : OM) (H : Hp) {α β : Type} (t : Sem α) (R : OM → β → α → Prop) (b : β) (H' : Hp) : Prop :=
  ∀ (E : Value → Shared → Prop) (Q : α → Shared → Prop) (s : Shared), Sim B W H s → (∀ c s' W', Le W W' → Sim B W' H' s' → R W' b c → Q c s') → wpAny B.m A t Q E s
def REq {α : Type} (_ : OM) (b c : α) : Prop := c = b

section
variable {B : Base} {A : Around} {W : OM} {H H' H'' : Hp} {α β γ δ : Type} {env : Env}
theorem Sm.pure {R : OM → β → α → Prop} {b : β} {c : α} (h : R W b c) : Sm B A W H (pure c) R b H := fun E Q s S q => wpAny_pure (q c s W (Le.refl W) S h)
theorem Sm.bind {t : Sem α} {f : α → Sem γ} {R : OM → β → α → Prop} {R' : OM → δ → γ → Prop} {b : β} {d : δ} (h : Sm B A W H t R b H') (k : ∀ W' c, Le W W' → R W' b c → Sm B A W' H' (f c) R' d H'') :
    Sm B A W H (t >>= f) R' d H'' := fun E Q s S q =>
  wpAny_bind (h E _ s S fun c s' W' l S' r => k W' c l r E Q s' S' fun c' s'' W'' l' S'' r' => q c' s'' W'' (l.trans l') S'' r')
theorem Sm.mono {t : Sem α} {R : OM → β → α → Prop} {R' : OM → γ → α → Prop} {b : β} {d : γ} (h : Sm B A W H t R b H') (k : ∀ W' c, Le W W' → R W' b c → R' W' d c) : Sm B A W H t R' d H' :=
  fun E Q s S q => h E Q s S fun c s' W' l S' r => q c s' W' l S' (k W' c l r)
theorem Sm.held {vs : List Value} {t : Sem α} {R : OM → β → α → Prop} {b : β} (h : Sm B A W H t R b H') : Sm B A W H (holding vs t) R b H' := fun E Q s S q => wpAny_holding (h E Q s S q)
theorem Sm.at {pos : Pos} {t : Sem α} {R : OM → β → α → Prop} {b : β} (h : Sm B A W H t R b H') : Sm B A W H (standAt pos >>= fun _ => t) R b H' := fun E Q s S q => wpAny_bind (wpAny_standAt (h E Q s S q))
theorem Sm.rule {tag : String} {t : Sem α} {R : OM → β → α → Prop} {b : β} (h : Sm B A W H t R b H') : Sm B A W H (rule tag >>= fun _ => t) R b H' := fun E Q s S q => wpAny_bind (wpAny_rule (h E Q s S q))
theorem wp_release {vs keep : List Value} {E : Value → Shared → Prop} {Q : Unit → Shared → Prop} {s : Shared} (h : Q () s) : wpAny B.m A (release vs keep) Q E s := fun Γ p hΓ => by rw [Sem.wp_release]; exact h
theorem Sm.operate {vs : List Value} {t : Sem Value} {R : OM → β → Value → Prop} {b : β} (h : Sm B A W H t R b H') : Sm B A W H (operate vs t) R b H' := by
  unfold PySem.operate
  intro E Q s S q
  refine wpAny_bind (wpAny_holding (h E _ s S fun c s' W' l S' r => ?_))
  exact wpAny_bind (wp_release (wpAny_pure (q c s' W' l S' r)))
theorem Sm.map {t : Sem α} {f : α → γ} {R : OM → β → α → Prop} {R' : OM → δ → γ → Prop} {b : β} {d : δ} (h : Sm B A W H t R b H') (k : ∀ W' c, Le W W' → R W' b c → R' W' d (f c)) : Sm B A W H (f <$> t) R' d H' := fun E Q s S q =>
  wpAny_map (h E _ s S fun c s' W' l S' r => q (f c) s' W' l S' (k W' c l r))
/-- a tree whose run is told at the heap -/
theorem Sm.of {t : Sem α} {R : OM → β → α → Prop} {b : β} (h : ∀ (E : Value → Shared → Prop) (Q : α → Shared → Prop) (s : Shared), Sim B W H s → (∀ c s' W', Le W W' → Sim B W' H' s' → R W' b c → Q c s') → wpAny B.m A t Q E s) : Sm B A W H t R b H' := h
end

/-- the code that runs, and its table -/
def CodeV (W : OM) (v : Value) : Prop := ∃ c o P ps, v = .ref c ∧ W c = some (.fro o) ∧ codeTab o = some P ∧ W P = some (.tab ps)
theorem CodeV.live {W W' : OM} {v : Value} (x : CodeV W v) (l : Live W W') : CodeV W' v :=
  let ⟨c, o, P, ps, a1, a2, a3, a4⟩ := x; ⟨c, o, P, ps, a1, l.fro a2, a3, (l _ _ a4).resolve_left fun ⟨_, q⟩ => by cases q⟩
/-- the frame of a def, or of a comprehension in it -/
structure FrameOk (W : OM) (env : Env) (sc : Scope) (ρ φ : Loc) : Prop where
  kind : sc.kind = .function
  ekind : env.scope.kind = .function
  globals : env.globals = mainGlobals
  builtins : env.builtins = builtinsNs
  names : ∀ x k, sc.names.lookup x = some k → (match k with
    | .free => env.kindOf x = some .free ∨ env.kindOf x = some .cell
    | k => env.kindOf x = some k)
  back : ∀ x, env.kindOf x = some .local → sc.names.lookup x = some .local
  code : CodeV W env.code
  loc : ∃ o es n, W env.locals = some (.prv o) ∧ o.data = .dict es n ∧ StrKeys es ∧ ∀ x v, sc.names.lookup x = some .local → ρ.lookup x = some v → ∃ c, nsFind es x = some c ∧ VR W v c
  cel : ∀ x, sc.names.lookup x = some .cell → ∃ c o cv, env.cells.lookup x = some c ∧ W c = some (.prv o) ∧ o.data = .cell cv ∧ c ≠ env.locals ∧ ∀ v, ρ.lookup x = some v → ∃ u, cv = some u ∧ VR W v u
  apart : ∀ x y c, sc.names.lookup x = some .cell → sc.names.lookup y = some .cell → env.cells.lookup x = some c → env.cells.lookup y = some c → x = y
  fre : ∀ x v, sc.names.lookup x = some .free → φ.lookup x = some v → ∃ c o u, env.cells.lookup x = some c ∧ W c = some (.prv o) ∧ o.data = .cell (some u) ∧ VR W v u ∧ c ≠ env.locals ∧ ∀ y, sc.names.lookup y = some .cell → env.cells.lookup y ≠ some c

/-- what a frame alone may change -/
def mine (env : Env) (sc : Scope) (a : Addr) : Prop := a = env.locals ∨ ∃ x, sc.names.lookup x = some .cell ∧ env.cells.lookup x = some a

section
variable {B : Base} {A : Around} {W W' : OM} {H H' : Hp} {env : Env} {sc : Scope} {ρ φ : Loc}
theorem FrameOk.le (F : FrameOk W env sc ρ φ) (l : Le W W') : FrameOk W' env sc ρ φ := by
  refine ⟨F.kind, F.ekind, F.globals, F.builtins, F.names, F.back, F.code.live l.live, ?_, fun x hx => ?_, F.apart, fun x v hx hv => ?_⟩
  · obtain ⟨o, es, n, a, b, c, d⟩ := F.loc
    exact ⟨o, es, n, l _ _ a, b, c, fun x v h1 h2 => let ⟨u, p, q⟩ := d x v h1 h2; ⟨u, p, q.le l⟩⟩
  · obtain ⟨c, o, cv, a, b, d, e, f⟩ := F.cel x hx
    exact ⟨c, o, cv, a, l _ _ b, d, e, fun v h => let ⟨u, p, q⟩ := f v h; ⟨u, p, q.le l⟩⟩
  · obtain ⟨c, o, u, a, b, d, e, f⟩ := F.fre x v hx hv
    exact ⟨c, o, u, a, l _ _ b, d, e.le l, f⟩

theorem isCell_of {W : OM} {s : Shared} {c : Addr} {o : Obj} {cv : Option Value} (S : Sim B W H s) (e : W c = some (.prv o)) (d : o.data = .cell cv) : s.heap.IsCell c cv := ⟨o, S.prv c o e, d⟩
theorem ns_of {W : OM} {s : Shared} {c : Addr} {o : Obj} {es : Array DictEntry} {n : Nat} (S : Sim B W H s) (e : W c = some (.prv o)) (d : o.data = .dict es n) (k : StrKeys es) : s.heap.Ns c (nsFind es) := ⟨o, es, n, S.prv c o e, d, k, fun _ => rfl⟩

/-! values that stand at the top -/
theorem asTup_eq {o : Obj} {xs : List Value} (h : asTup o = some xs) : ∃ n, o = tupObj xs.toArray n := by
  unfold asTup at h
  split at h
  · rename_i n ys k sl
    split at h
    · rename_i q
      simp only [Bool.and_eq_true, beq_iff_eq, Array.isEmpty_iff] at q
      obtain ⟨rfl, rfl⟩ := q
      cases h
      exact ⟨k, by simp [tupObj]⟩
    · cases h
  · cases h
theorem asLst_eq {o : Obj} {xs : List Value} (h : asLst o = some xs) : ∃ n, o = lstObj xs.toArray n := by
  unfold asLst at h
  split at h
  · rename_i n ys k sl
    split at h
    · rename_i q
      simp only [Bool.and_eq_true, beq_iff_eq, Array.isEmpty_iff] at q
      obtain ⟨rfl, rfl⟩ := q
      cases h
      exact ⟨k, by simp [lstObj]⟩
    · cases h
  · cases h
theorem asDct_eq {o : Obj} {xs : List DictEntry} (h : asDct o = some xs) : ∃ n, o = dictOf xs n := by
  unfold asDct at h
  split at h
  · rename_i n ys k sl
    split at h
    · rename_i q
      simp only [Bool.and_eq_true, beq_iff_eq, Array.isEmpty_iff] at q
      obtain ⟨rfl, rfl⟩ := q
      cases h
      exact ⟨k, by simp [dictOf]⟩
    · cases h
  · cases h

/-- the fragment of the top, frozen -/
def KFro (K : Frag) (W : OM) : Prop := ∀ a o, K.lookup a = some o → W a = some (.fro o)
theorem Sim.kf (O : B.Ok) {s : Shared} (S : Sim B W H s) : KFro B.K W := fun a o e => S.kfro O e
theorem mapO_VRs {K : Frag} {n : Nat} (ih : ∀ v u, ofVal K n v = some u → VR W u v) : ∀ {xs : List Value} {vs : List V}, mapO (ofVal K n) xs = some vs → VRs W vs xs
  | [], vs, h => by cases h; exact .nil
  | x :: xs, vs, h => by
    unfold mapO at h
    split at h
    · rename_i y hy
      split at h
      · rename_i ys hys
        cases h
        exact .cons (ih _ _ hy) (mapO_VRs ih hys)
      · cases h
    · cases h
theorem ofVal_VR {K : Frag} (k : KFro K W) : ∀ (n : Nat) (v : Value) (u : V), ofVal K n v = some u → VR W u v
  | 0, _, _, h => by cases h
  | n + 1, v, u, h => by
    unfold ofVal at h
    split at h <;> try first | (cases h; done) | (cases h; first | exact .none | exact .bool _ | exact .int _ _ | exact .str _ _ | exact .bytes _ _ | exact .type _ | exact .bi _)
    · rename_i a
      split at h
      · rename_i o ho
        split at h
        · rename_i xs hx
          split at h
          · rename_i vs hv
            cases h
            obtain ⟨m, rfl⟩ := asTup_eq hx
            exact .tup (k a _ ho) (mapO_VRs (ofVal_VR k n) hv)
          · cases h
        · cases h; exact .stat (k a o ho)
      · cases h

theorem glob_ns (O : B.Ok) {x : Str} {v : V} (h : glob B.K x = some v) : ∃ c, (∃ n, ofVal B.K n c = some v) ∧ ∀ {A : Around} {W : OM} {H : Hp} {s : Shared} {E : Value → Shared → Prop} {Q : Value → Shared → Prop} {env : Env},
    env.globals = mainGlobals → env.builtins = builtinsNs → Sim B W H s → Q c s → wpAny B.m A (loadGlobal env x) Q E s := by
  obtain ⟨mg, mb, hg, hb, hbb⟩ := O.top
  unfold glob at h
  split at h
  · rename_i c e
    refine ⟨c, ⟨_, h⟩, fun eg eb S q => ?_⟩
    exact Calls.loadGlobal_global (eg ▸ S.ns hg) (mg_of O.kin hg e) q
  · rename_i e
    split at h
    · cases h
    · rename_i hn
      split at h
      · rename_i c e'
        refine ⟨c, ⟨_, h⟩, fun eg eb S q => ?_⟩
        have hx : x ≠ "__name__" := fun q => hn (by rw [q]; exact beq_self_eq_true _)
        exact Calls.loadGlobal_builtin (eg ▸ S.ns hg) (mg_none_of O.kin hg e) (eb ▸ S.ns hb) ((hbb x hx).trans e') q
      · cases h
  · cases h

theorem loadName_sound (O : B.Ok) (F : FrameOk W env sc ρ φ) {x : Str} {v : V} (h : nameV B.K sc ρ φ x = some v) : Sm B A W H (loadName env x) VR v H := by
  intro E Q s S q
  unfold nameV at h
  split at h
  · rename_i e
    obtain ⟨o, es, n, a, b, c, d⟩ := F.loc
    obtain ⟨u, p, r⟩ := d x v e h
    exact wpAny_loadName_local F.ekind (F.names x _ e) (ns_of S a b c) p (q u s W (Le.refl W) S r)
  · rename_i e
    obtain ⟨c, o, cv, a, b, d, _, f⟩ := F.cel x e
    obtain ⟨u, rfl, r⟩ := f v h
    exact wpAny_loadName_cell F.ekind (F.names x _ e) a (isCell_of S b d) (q u s W (Le.refl W) S r)
  · rename_i e
    split at h
    · cases h
    rename_i hx
    have hx : (x == ("__classdict__" : Str)) = false := by simpa using hx
    obtain ⟨c, o, u, a, b, d, r, _, _⟩ := F.fre x v e h
    rcases F.names x _ e with k | k
    · exact wpAny_loadName_free F.ekind k a (isCell_of S b d) (q u s W (Le.refl W) S r) hx
    · exact wpAny_loadName_cell F.ekind k a (isCell_of S b d) (q u s W (Le.refl W) S r)
  · rename_i e
    obtain ⟨c, ⟨n, hc⟩, g⟩ := glob_ns O h
    have := g (A := A) (E := E) (Q := Q) F.globals F.builtins S (q c s W (Le.refl W) S (ofVal_VR (S.kf O) n c v hc))
    unfold loadName
    simp only [Env.blockKind, F.ekind, (F.names x _ e : env.kindOf x = some .globalImplicit), ScopeKind.isAnnotationScope, Bool.false_and, Bool.false_eq_true, if_false]
    exact this
  · cases h
end
end Mini
namespace Mini
open PySem PySem.W PySem.W.X PySem.Calls PyProof.Rows

section
variable {B : Base} {A : Around} {W W' : OM} {H H' : Hp} {env : Env} {sc : Scope} {ρ φ : Loc} {s : Shared}

theorem VRs.length {W : OM} : ∀ {vs : List V} {cs : List Value}, VRs W vs cs → vs.length = cs.length
  | _, _, .nil => rfl
  | _, _, .cons _ r => by rw [List.length_cons, List.length_cons, r.length]
theorem VRs.at {W : OM} : ∀ {vs : List V} {cs : List Value}, VRs W vs cs → ∀ {i : Nat} {v : V}, vs[i]? = some v → ∃ c, cs[i]? = some c ∧ VR W v c
  | _, _, .nil, i, v, h => by simp at h
  | _, _, .cons a r, 0, v, h => by simp at h; subst h; exact ⟨_, by simp, a⟩
  | _, _, .cons a r, i + 1, v, h => by simp at h; simpa using r.at h
theorem VRs.append {W : OM} : ∀ {vs us : List V} {cs ds : List Value}, VRs W vs cs → VRs W us ds → VRs W (vs ++ us) (cs ++ ds)
  | _, _, _, _, .nil, h => h
  | _, _, _, _, .cons a r, h => .cons a (r.append h)
theorem VRs.set {W : OM} : ∀ {vs : List V} {cs : List Value}, VRs W vs cs → ∀ (i : Nat) {v : V} {c : Value}, VR W v c → VRs W (vs.set i v) (cs.set i c)
  | _, _, .nil, i, v, c, h => by simpa using VRs.nil
  | _, _, .cons a r, 0, v, c, h => by simpa using VRs.cons h r
  | _, _, .cons a r, i + 1, v, c, h => by simpa using VRs.cons a (r.set i h)
theorem VRs.drop {W : OM} : ∀ {vs : List V} {cs : List Value}, VRs W vs cs → ∀ (n : Nat), VRs W (vs.drop n) (cs.drop n)
  | _, _, h, 0 => by simpa using h
  | _, _, .nil, n + 1 => by simpa using VRs.nil
  | _, _, .cons a r, n + 1 => by simpa using r.drop n
theorem VRs.take {W : OM} : ∀ {vs : List V} {cs : List Value}, VRs W vs cs → ∀ (n : Nat), VRs W (vs.take n) (cs.take n)
  | _, _, h, 0 => by simpa using VRs.nil
  | _, _, .nil, n + 1 => by simpa using VRs.nil
  | _, _, .cons a r, n + 1 => by simpa using VRs.cons a (r.take n)
theorem VRs.reverse {W : OM} : ∀ {vs : List V} {cs : List Value}, VRs W vs cs → VRs W vs.reverse cs.reverse
  | _, _, .nil => .nil
  | _, _, .cons a r => by rw [List.reverse_cons, List.reverse_cons]; exact r.reverse.append (.cons a .nil)

/-- what a list reads as, at a heap -/
theorem listOf_sound (O : B.Ok) (S : Sim B W H s) {v : V} {c : Value} {xs : List V} (r : VR W v c) (h : listOf B.K H v = some xs) : ∃ a cvs n, c = .ref a ∧ s.heap.get? a = some (lstObj cvs n) ∧ VRs W xs cvs.toList := by
  cases r with
  | @ref i a e =>
    obtain ⟨o, h1, c⟩ := S.obj _ _ e
    simp only [listOf, h1] at h
    cases o with
    | list ys => cases h; obtain ⟨cvs, n, g, z⟩ := c; exact ⟨a, cvs, n, rfl, g, z⟩
    | inst _ _ => cases h
    | dict _ => cases h
  | @stat a o e =>
    simp only [listOf] at h
    split at h
    · rename_i o' ho
      split at h
      · rename_i ys hl
        obtain ⟨n, rfl⟩ := asLst_eq hl
        exact ⟨a, _, n, rfl, S.fro a _ (S.kfro O ho), mapO_VRs (ofVal_VR (S.kf O) OV) h⟩
      · cases h
    · cases h
  | _ => cases h
theorem listOf_isList (O : B.Ok) (S : Sim B W H s) {v : V} {c : Value} {xs : List V} (r : VR W v c) (h : listOf B.K H v = some xs) : ∃ a cvs, c = .ref a ∧ s.heap.IsList a cvs ∧ VRs W xs cvs.toList :=
  let ⟨a, cvs, n, e, g, z⟩ := listOf_sound O S r h
  ⟨a, cvs, e, ⟨_, g, rfl, n, rfl⟩, z⟩
theorem tupOf_sound (S : Sim B W H s) {vs : List V} {c : Value} (r : VR W (.tup vs) c) : ∃ a cvs n, c = .ref a ∧ s.heap.get? a = some (tupObj cvs n) ∧ VRs W vs cvs.toList := by
  cases r with
  | @tup _ cvs a n e z => exact ⟨a, cvs.toArray, n, rfl, S.fro _ _ e, by simpa using z⟩

theorem emp {α β : Type} (cvs : Array α) (xs : List β) (h : cvs.size = xs.length) : cvs.isEmpty = xs.isEmpty := by
  unfold Array.isEmpty
  rw [h]
  cases xs <;> rfl
theorem sz {n : Nat} (h : n ≤ maxL) : n ≤ sizeLine := Nat.le_trans h (by decide)
theorem sz63 {n : Nat} (h : n ≤ maxL) : (n : Int) < 2 ^ 63 := by
  have : n ≤ 1000000 := h
  omega

theorem bne_zero (n : Nat) : ((n : Int) != 0) = (n != 0) := by
  cases n <;> rfl
theorem truthy_sound (O : B.Ok) {v : V} {c : Value} {b : Bool} (r : VR W v c) (h : truthy B.K H v = some b) : Sm B A W H (PySem.truthy c) REq b H := by
  intro E Q s S q
  have done : ∀ t, Q b { s with toks := t } := fun t => q b _ W (Le.refl W) (S.tok t) rfl
  have lst : ∀ {xs : List V}, listOf B.K H v = some xs → (if xs.length ≤ maxL then some (!xs.isEmpty) else none) = some b → wpAny B.m A (PySem.truthy c) Q E s := by
    intro xs hl hb
    split at hb
    · rename_i hz
      cases hb
      obtain ⟨a, cvs, rfl, il, z⟩ := listOf_isList O S r hl
      have hn : cvs.size = xs.length := by rw [← Array.length_toList, ← z.length]
      refine wpAny_truthy_list il (by rw [hn]; exact sz63 hz) ?_
      rw [emp cvs xs hn]
      exact done _
    · cases hb
  cases r with
  | none => cases h; exact truthy_none (done s.toks)
  | bool x => cases h; exact wpAny_truthy_bool (done s.toks)
  | int i t =>
    cases h
    refine PyProof.Rows.truthy_int ?_
    exact done s.toks
  | str x t =>
    simp only [truthy] at h
    split at h
    · rename_i hz
      cases h
      have hz' : x.length ≤ maxL := hz
      refine P.truthy_str (by have := sz63 hz'; omega) ?_
      rw [bne_zero]
      exact done _
    · cases h
  | bytes x t =>
    simp only [truthy] at h
    split at h
    · rename_i hz
      cases h
      refine truthy_bytes (Nat.le_trans hz (by decide)) ?_
      rw [bne_zero]
      exact done _
    · cases h
  | @tup vs cvs a n e z =>
    simp only [truthy] at h
    split at h
    · rename_i hz
      cases h
      refine truthy_tuple (items := cvs.toArray) ⟨_, S.fro _ _ e, rfl, n, rfl⟩ (by rw [List.size_toArray, ← z.length]; exact sz63 hz) ?_
      rw [emp cvs.toArray vs (by rw [List.size_toArray, z.length])]
      exact done _
    · cases h
  | ref e =>
    simp only [truthy] at h
    split at h
    · rename_i hl; exact lst hl h
    · cases h
  | stat e =>
    simp only [truthy] at h
    split at h
    · rename_i hl; exact lst hl h
    · cases h
  | _ => simp only [truthy, listOf] at h; cases h
end
end Mini
namespace Mini
open PySem PySem.W PySem.W.X PySem.Calls PyProof.Rows PySem.SeqAt

section
variable {B : Base} {A : Around} {W W' : OM} {H H' : Hp} {env : Env} {sc : Scope} {ρ φ : Loc} {s : Shared}

theorem arr_inj {cs ds : List Value} (h : cs.toArray = ds.toArray) : cs = ds := by simpa using h
theorem allEq_true {f : V → V → Option Bool} {W : OM} (ih : ∀ v u c b, VR W v c → VR W u c → f v u = some b → b = true) : ∀ {xs ys : List V} {cs : List Value} {b : Bool}, VRs W xs cs → VRs W ys cs → allEq f xs ys = some b → b = true
  | _, _, _, _, .nil, .nil, h => by cases h; rfl
  | _, _, _, _, .cons a r, .cons a' r', h => by
    unfold allEq at h
    split at h
    · rename_i x hx
      split at h
      · rename_i y hy
        cases h
        rw [ih _ _ _ _ a a' hx, allEq_true ih r r' hy]; rfl
      · cases h
    · cases h
theorem seqEq_true {f : V → V → Option Bool} {W : OM} (ih : ∀ v u c b, VR W v c → VR W u c → f v u = some b → b = true) {xs ys : List V} {cs : List Value} {b : Bool} (r : VRs W xs cs) (r' : VRs W ys cs) (h : seqEq f xs ys = some b) : b = true := by
  unfold seqEq at h
  rw [if_pos (by rw [r.length, r'.length])] at h
  exact allEq_true ih r r' h
theorem eqV_same (O : B.Ok) (S : Sim B W H s) : ∀ (n : Nat) (v u : V) (c : Value) (b : Bool), VR W v c → VR W u c → eqV B.K H n v u = some b → b = true
  | 0, _, _, _, _, _, _, h => by cases h
  | n + 1, v, u, c, b, r, r', h => by
    have ih := eqV_same O S n
    have lst : (match listOf B.K H v, listOf B.K H u with
      | some xs, some ys => seqEq (eqV B.K H n) xs ys
      | _, _ => none) = some b → b = true := by
      intro h
      split at h
      · rename_i xs ys h1 h2
        obtain ⟨a, cvs, m, rfl, g, z⟩ := listOf_sound O S r h1
        obtain ⟨a', cvs', m', e, g', z'⟩ := listOf_sound O S r' h2
        cases e
        rw [g] at g'
        cases g'
        exact seqEq_true ih z z' h
      · cases h
    cases r with
    | none => cases r'; simp only [eqV] at h; cases h; rfl
    | bool x => cases r'; simp only [eqV] at h; cases h; simp
    | int i t => cases r'; simp only [eqV] at h; cases h; simp
    | str x t => cases r'; simp only [eqV] at h; cases h; simp
    | bytes x t => cases r'; simp only [eqV] at h; cases h; simp
    | type x => cases r'; simp only [eqV, listOf] at h; cases h
    | bi x => cases r'; simp only [eqV, listOf] at h; cases h
    | tup e z =>
      cases r' with
      | tup e' z' =>
        rw [e] at e'
        have e' := Option.some.inj e'
        injection e' with e'
        injection e' with _ _ e' _
        injection e' with e' _
        have := arr_inj e'
        subst this
        simp only [eqV] at h
        exact allEq_true ih z z' h
      | ref e' => rw [e] at e'; cases e'
      | stat e' => simp only [eqV] at h; exact lst h
      | rng e' => rw [e] at e'; simp at e'
      | slc e' => rw [e] at e'; simp at e'
      | rvs e' => rw [e] at e'; simp at e'
      | own e' => rw [e] at e'; simp at e'
    | ref e =>
      cases r' with
      | ref e' => simp only [eqV] at h; exact lst h
      | stat e' => rw [e] at e'; cases e'
      | tup e' => rw [e] at e'; cases e'
      | rng e' => rw [e] at e'; cases e'
      | slc e' => rw [e] at e'; cases e'
      | rvs e' => rw [e] at e'; cases e'
      | own e' => rw [e] at e'; cases e'
    | stat e =>
      cases r' with
      | ref e' => rw [e] at e'; cases e'
      | stat e' => simp only [eqV] at h; exact lst h
      | tup e' => simp only [eqV] at h; exact lst h
      | rng e' => simp only [eqV] at h; exact lst h
      | slc e' => simp only [eqV] at h; exact lst h
      | rvs e' => simp only [eqV] at h; exact lst h
      | own e' => simp only [eqV] at h; exact lst h
    | rng e => cases r' <;> simp only [eqV, listOf] at h <;> cases h
    | slc e => cases r' <;> simp only [eqV, listOf] at h <;> cases h
    | rvs e => cases r' <;> simp only [eqV, listOf] at h <;> cases h
    | own e => cases r' <;> simp only [eqV, listOf] at h <;> cases h

theorem eq_ne {c d : Value} {b : Bool} (h : RcAt A s c d b) (hb : b = true ∨ c ≠ d) (nf : (∀ x t, c ≠ .float x t) := by intro x t e; cases e) : EqAt A s c d b := fun prog w E Q q => by
  unfold eqBool
  refine wpAny_holding ?_
  refine wpAny_ite_split (fun hab => ?_) (fun _ => ?_)
  · rcases hb with rfl | hne
    · exact wpAny_bind (wpAny_rule (wpAny_pure q))
    · exact absurd (eq_of_beq hab) hne
  · split
    · rename_i x t y u e
      injection e with e _
      exact absurd e (nf _ _)
    · refine wpAny_bind (h prog w E _ ?_)
      exact wpAny_truthy_bool q

theorem beq_arr (x y : Array UInt8) : (x.toList == y.toList) = (x == y) := by
  rw [Bool.eq_iff_iff, beq_iff_eq, beq_iff_eq]
  exact ⟨fun h => Array.toList_inj.mp h, fun h => by rw [h]⟩
theorem rc_bytes (x y : Array UInt8) (t u : Tok) : RcAt A s (.bytes x t) (.bytes y u) (x == y) := fun prog w E Q h => by
  rw [← beq_arr] at h
  exact eq_bytes h
theorem rcn_bytes (x y : Array UInt8) (t u : Tok) : RcNeAt A s (.bytes x t) (.bytes y u) (!(x == y)) := fun prog w E Q h => by
  rw [← beq_arr] at h
  exact ne_bytes h

/-- one comparison, three ways -/
def Eq3 (A : Around) (s : Shared) (c d : Value) (b : Bool) : Prop := RcAt A s c d b ∧ RcNeAt A s c d (!b) ∧ EqAt A s c d b

theorem allEq_sound {f : V → V → Option Bool} {W : OM} {s : Shared} {A : Around} (ih : ∀ v u c d b, VR W v c → VR W u d → f v u = some b → EqAt A s c d b) : ∀ {xs ys : List V} {cs ds : List Value} {b : Bool},
    VRs W xs cs → VRs W ys ds → allEq f xs ys = some b → ∃ e : Nat → Bool, (∀ j c d, cs[j]? = some c → ds[j]? = some d → EqAt A s c d (e j)) ∧ b = (List.range cs.length).all e
  | _, _, _, _, _, .nil, .nil, h => by cases h; exact ⟨fun _ => true, fun j c d h => by simp at h, by simp⟩
  | _, _, _, _, _, .nil, .cons _ _, h => by cases h
  | _, _, _, _, _, .cons _ _, .nil, h => by cases h
  | _, _, _, _, _, .cons (c := c0) (cs := cs) a r, .cons a' r', h => by
    unfold allEq at h
    split at h
    · rename_i x hx
      split at h
      · rename_i y hy
        cases h
        obtain ⟨e, h1, h2⟩ := allEq_sound ih r r' hy
        refine ⟨fun j => match j with | 0 => x | j + 1 => e j, fun j c d hc hd => ?_, ?_⟩
        · cases j with
          | zero => simp at hc hd; subst hc hd; exact ih _ _ _ _ _ a a' hx
          | succ j => simp at hc hd; exact h1 j c d hc hd
        · rw [List.length_cons, List.range_succ_eq_map, List.all_cons, List.all_map, h2]
          rfl
      · cases h
    · cases h

theorem arr_at {α : Type} (cs : Array α) (j : Nat) (h : j < cs.size) : cs.toList[j]? = some cs[j] := by
  rw [Array.getElem?_toList]; exact Array.getElem?_eq_getElem h

theorem lists_sound {f : V → V → Option Bool} {W : OM} {s : Shared} (hu : A.units < cLine) (ih : ∀ v u c d b, VR W v c → VR W u d → f v u = some b → EqAt A.in1 s c d b)
    {xs ys : List V} {a a' : Addr} {cs ds : Array Value} {b : Bool} (il : s.heap.IsList a cs) (il' : s.heap.IsList a' ds) (z : VRs W xs cs.toList) (z' : VRs W ys ds.toList) (h : seqEq f xs ys = some b) : RcAt A s (.ref a) (.ref a') b ∧ RcNeAt A s (.ref a) (.ref a') (!b) := by
  unfold seqEq at h
  have n1 : xs.length = cs.size := by rw [z.length, Array.length_toList]
  have n2 : ys.length = ds.size := by rw [z'.length, Array.length_toList]
  split at h
  · rename_i hlen
    obtain ⟨e, h1, h2⟩ := allEq_sound ih z z' h
    rw [Array.length_toList] at h2
    rw [h2]
    exact ⟨RcAt.lists il il' (by rw [← n1, ← n2]; exact hlen) hu fun j p q => h1 j _ _ (arr_at cs j p) (arr_at ds j q), RcNeAt.lists il il' (by rw [← n1, ← n2]; exact hlen) hu fun j p q => h1 j _ _ (arr_at cs j p) (arr_at ds j q)⟩
  · rename_i hlen
    cases h
    have hne : (cs.size != ds.size) = true := by rw [← n1, ← n2]; simpa using hlen
    exact ⟨RcAt.lists_lengths il il' hne hu, RcNeAt.lists_lengths il il' hne hu⟩
theorem allEq_len {f : V → V → Option Bool} : ∀ {xs ys : List V} {b : Bool}, allEq f xs ys = some b → xs.length = ys.length
  | [], [], _, _ => rfl
  | _ :: xs, _ :: ys, b, h => by
    unfold allEq at h
    split at h
    · split at h
      · rename_i hy; rw [List.length_cons, List.length_cons, allEq_len hy]
      · cases h
    · cases h
  | [], _ :: _, _, h => by cases h
  | _ :: _, [], _, h => by cases h
theorem tuples_sound {f : V → V → Option Bool} {W : OM} {s : Shared} (hu : A.units < cLine) (ih : ∀ v u c d b, VR W v c → VR W u d → f v u = some b → EqAt A.in1 s c d b)
    {xs ys : List V} {a a' : Addr} {cs ds : Array Value} {b : Bool} (il : s.heap.IsTuple a cs) (il' : s.heap.IsTuple a' ds) (z : VRs W xs cs.toList) (z' : VRs W ys ds.toList) (h : allEq f xs ys = some b) :
    RcAt A s (.ref a) (.ref a') b ∧ RcNeAt A s (.ref a) (.ref a') (!b) := by
  have n1 : xs.length = cs.size := by rw [z.length, Array.length_toList]
  have n2 : ys.length = ds.size := by rw [z'.length, Array.length_toList]
  have hlen := allEq_len h
  obtain ⟨e, h1, h2⟩ := allEq_sound ih z z' h
  rw [Array.length_toList] at h2
  have hs : cs.size = ds.size := by rw [← n1, ← n2]; exact hlen
  have hb : b = ((List.range (min cs.size ds.size)).all e && cs.size == ds.size) := by
    rw [h2, ← hs, Nat.min_self, beq_self_eq_true, Bool.and_true]
  rw [hb]
  exact ⟨RcAt.tuples il il' hu fun j p q => h1 j _ _ (arr_at cs j p) (arr_at ds j q), RcNeAt.tuples il il' hu fun j p q => h1 j _ _ (arr_at cs j p) (arr_at ds j q)⟩

theorem eqV_sound (O : B.Ok) (S : Sim B W H s) : ∀ (n : Nat) (v u : V) (c d : Value) (b : Bool) (A : Around), VR W v c → VR W u d → eqV B.K H n v u = some b → A.units + n < cLine → Eq3 A s c d b
  | 0, _, _, _, _, _, _, _, _, h, _ => by cases h
  | n + 1, v, u, c, d, b, A, r, r', h, hu => by
    have ih : ∀ v u c d b, VR W v c → VR W u d → eqV B.K H n v u = some b → EqAt A.in1 s c d b := fun v u c d b r r' h => (eqV_sound O S n v u c d b A.in1 r r' h (by show A.units + 1 + n < cLine; omega)).2.2
    have hu0 : A.units < cLine := by omega
    have same : c = d → b = true := fun e => eqV_same O S (n + 1) v u c b r (e ▸ r') h
    have fin : RcAt A s c d b ∧ RcNeAt A s c d (!b) → Eq3 A s c d b := fun ⟨p, q⟩ => ⟨p, q, eq_ne p (by
      by_cases e : c = d
      · exact .inl (same e)
      · exact .inr e) (by intro x t e; subst e; cases r)⟩
    have lst : (match listOf B.K H v, listOf B.K H u with
      | some xs, some ys => seqEq (eqV B.K H n) xs ys
      | _, _ => none) = some b → Eq3 A s c d b := by
      intro h
      split at h
      · rename_i xs ys h1 h2
        obtain ⟨a, cvs, rfl, g, z⟩ := listOf_isList O S r h1
        obtain ⟨a', cvs', rfl, g', z'⟩ := listOf_isList O S r' h2
        exact fin (lists_sound hu0 ih g g' z z' h)
      · cases h
    cases r with
    | none =>
      cases r' <;> simp only [eqV, listOf] at h <;> cases h
      · exact fin ⟨.none_none, .none_none⟩
      · exact fin ⟨.none_bool _, .none_bool _⟩
      · exact fin ⟨.none_int _ _, .none_int _ _⟩
      · exact fin ⟨.none_str _ _, .none_str _ _⟩
    | bool x =>
      cases r' <;> simp only [eqV, listOf] at h <;> cases h
      · exact fin ⟨.bool_none _, .bool_none _⟩
      · exact fin ⟨.bool_bool _ _, .bool_bool _ _⟩
      · exact fin ⟨.bool_int _ _ _, .bool_int _ _ _⟩
      · exact fin ⟨.bool_str _ _ _, .bool_str _ _ _⟩
    | int i t =>
      cases r' <;> simp only [eqV, listOf] at h <;> cases h
      · exact fin ⟨.int_none _ _, .int_none _ _⟩
      · exact fin ⟨.int_bool _ _ _, .int_bool _ _ _⟩
      · exact fin ⟨.int_int _ _ _ _, .int_int _ _ _ _⟩
      · exact fin ⟨.int_str _ _ _ _, .int_str _ _ _ _⟩
    | str x t =>
      cases r' <;> simp only [eqV, listOf] at h <;> cases h
      · exact fin ⟨.str_none _ _, .str_none _ _⟩
      · exact fin ⟨.str_bool _ _ _, .str_bool _ _ _⟩
      · exact fin ⟨.str_int _ _ _ _, .str_int _ _ _ _⟩
      · exact fin ⟨.str_str _ _ _ _, .str_str _ _ _ _⟩
    | bytes x t =>
      cases r' <;> simp only [eqV, listOf] at h <;> cases h
      exact fin ⟨rc_bytes _ _ _ _, rcn_bytes _ _ _ _⟩
    | @tup vs cvs a m e z =>
      cases r' with
      | @tup vs' cvs' a' m' e' z' =>
        simp only [eqV] at h
        exact fin (tuples_sound (cs := cvs.toArray) (ds := cvs'.toArray) hu0 ih ⟨_, S.fro _ _ e, rfl, m, rfl⟩ ⟨_, S.fro _ _ e', rfl, m', rfl⟩ (by simpa using z) (by simpa using z') h)
      | ref e' => simp only [eqV] at h; exact lst h
      | stat e' => simp only [eqV] at h; exact lst h
      | _ => simp only [eqV, listOf] at h; cases h
    | ref e =>
      cases r' with
      | ref e' => simp only [eqV] at h; exact lst h
      | stat e' => simp only [eqV] at h; exact lst h
      | _ => simp only [eqV] at h; exact lst h
    | stat e =>
      cases r' with
      | ref e' => simp only [eqV] at h; exact lst h
      | stat e' => simp only [eqV] at h; exact lst h
      | _ => simp only [eqV] at h; exact lst h
    | _ => cases r' <;> simp only [eqV, listOf] at h <;> cases h
end
end Mini
namespace Mini
open PySem PySem.W PySem.W.X PySem.Calls PyProof.Rows PySem.SeqAt Builtin

section
variable {B : Base} {A : Around} {W W' : OM} {H H' : Hp} {env : Env} {sc : Scope} {ρ φ : Loc} {s : Shared}

theorem gives_bytes_contains (b : Array UInt8) (k : Int) (t u : Tok) (h0 : 0 ≤ k) (h1 : k < 256) : Gives («bytes.__contains__» ⟨[.bytes b t, .int k u], []⟩) (.val (.bool (b.contains k.toNat.toUInt8))) := by
  refine .of_wp fun M A E s Q hq => ?_
  show wpAny M A (do ret (.bool (← Bytes.containsIn "bytes.__contains__" (.bytes b t) (.int k u)))) _ E s
  refine wpAny_bind ?_
  unfold Bytes.containsIn
  refine wpAny_bind (wpAny_attempt ?_)
  refine wpAny_of_eq (a := k) (by rfl) ?_
  refine wpAny_bind (wpAny_of_eq (a := some b) (by kernel_rfl) ?_)
  show wpAny M A (if (decide (k < 0) || decide (k ≥ 256)) = true then _ else _) _ E s
  rw [if_neg (by simp; omega)]
  exact wpAny_pure (wpAny_pure ⟨_, rfl, hq⟩)

theorem KR.nth {W : OM} : ∀ {kvs : List (Int × V)} {es : List DictEntry}, KR W kvs es → ∀ e ∈ es, ∃ k t, e.key = .int k t ∧ e.hash = hashInt k
  | [], [], _, e, h => by cases h
  | (x, v) :: fs, d :: es, ⟨⟨t, a⟩, b, c, r⟩, e, h => by
    cases h with
    | head => exact ⟨x, t, a, b⟩
    | tail _ h => exact r.nth e h
  | [], _ :: _, x, _, _ => x.elim
  | _ :: _, [], x, _, _ => x.elim
theorem KR.find {W : OM} (k : Int) : ∀ {kvs : List (Int × V)} {es : List DictEntry}, KR W kvs es → (match findK k kvs with
    | some v => ∃ e, es.find? (fun d => Value.isInt k d.key) = some e ∧ VR W v e.val
    | none => es.find? (fun d => Value.isInt k d.key) = none)
  | [], [], _ => rfl
  | (x, v) :: fs, d :: es, ⟨⟨t, a⟩, b, c, r⟩ => by
    have ih := KR.find k r
    unfold findK
    by_cases h : x = k
    · rw [if_pos h]
      exact ⟨d, by simp [List.find?_cons, a, Value.isInt, h], c⟩
    · rw [if_neg h]
      have : Value.isInt k d.key = false := by rw [a]; simp [Value.isInt, h]
      rw [List.find?_cons, this]
      exact ih
  | [], _ :: _, x => x.elim
  | _ :: _, [], x => x.elim
theorem mapOf {W : OM} {h : Heap} {a : Addr} {kvs : List (Int × V)} {es : List DictEntry} {n : Nat} (g : h.get? a = some (dictOf es n)) (r : KR W kvs es) (prog : Program) (w : World) :
    h.MapOf (intKind prog w) a fun k => findBy Value.isInt es.toArray k :=
  ⟨_, es.toArray, n, g, ⟨rfl, rfl, rfl⟩, rfl, fun e he => by
    obtain ⟨k, t, h1, h2⟩ := r.nth e (by simpa using he)
    exact ⟨k, by rw [h1]; simp [intKind, Value.isInt], h2⟩, fun k => rfl⟩
theorem findBy_list (es : List DictEntry) (k : Int) : findBy Value.isInt es.toArray k = (es.find? fun d => Value.isInt k d.key).map (·.val) := by
  unfold findBy
  rw [List.find?_toArray]
theorem statKV_KR {K : Frag} (k : KFro K W) : ∀ {es : List DictEntry} {kvs : List (Int × V)}, statKV K es = some kvs → KR W kvs es
  | [], _, h => by cases h; trivial
  | e :: r, kvs, h => by
    unfold statKV at h
    split at h
    · rename_i i t v l h1 h2 h3
      split at h
      · rename_i hh
        cases h
        exact ⟨⟨t, h1⟩, hh, ofVal_VR k _ _ _ h2, statKV_KR k h3⟩
      · cases h
    · cases h
theorem dictOf_sound (O : B.Ok) (S : Sim B W H s) {v : V} {c : Value} {kvs : List (Int × V)} (r : VR W v c) (h : dictOfV B.K H v = some kvs) : ∃ a es n, c = .ref a ∧ s.heap.get? a = some (dictOf es n) ∧ KR W kvs es := by
  cases r with
  | @ref i a e =>
    obtain ⟨o, h1, c⟩ := S.obj _ _ e
    simp only [dictOfV, h1] at h
    cases o with
    | dict ys => cases h; obtain ⟨es, n, g, z, _⟩ := c; exact ⟨a, es, n, rfl, g, z⟩
    | inst _ _ => cases h
    | list _ => cases h
  | @stat a o e =>
    simp only [dictOfV] at h
    split at h
    · rename_i o' ho
      split at h
      · rename_i es hl
        obtain ⟨n, rfl⟩ := asDct_eq hl
        exact ⟨a, es, n, rfl, S.fro a _ (S.kfro O ho), statKV_KR (S.kf O) h⟩
      · cases h
    · cases h
  | _ => cases h

theorem anyEq_sound {f : V → Option Bool} {x : Value} {A : Around} (ih : ∀ v c b, VR W v c → f v = some b → EqAt A s c x b) : ∀ {xs : List V} {cs : List Value} {b : Bool}, VRs W xs cs → anyEq f xs = some b →
    ∃ ps : List (Value × Bool), ps.map (·.1) = cs ∧ (∀ p ∈ ps, EqAt A s p.1 x p.2) ∧ b = ps.any (·.2)
  | _, _, _, .nil, h => by cases h; exact ⟨[], rfl, (fun p hp => nomatch hp), rfl⟩
  | _, _, _, .cons (c := c) a r, h => by
    unfold anyEq at h
    split at h
    · rename_i y hy
      split at h
      · rename_i z hz
        cases h
        obtain ⟨ps, h1, h2, h3⟩ := anyEq_sound ih r hz
        refine ⟨(c, y) :: ps, by rw [List.map_cons, h1], fun p hp => ?_, by rw [List.any_cons, h3]⟩
        rcases List.mem_cons.mp hp with rfl | hp
        · exact ih _ _ _ a hy
        · exact h2 p hp
      · cases h
    · cases h
/-- one function of the item for all -/
theorem any_fun {ps : List (Value × Bool)} {x : Value} {A : Around} (h : ∀ p ∈ ps, EqAt A s p.1 x p.2) : ∃ e : Value → Bool, (∀ y ∈ ps.map (·.1), EqAt A s y x (e y)) ∧ (ps.map (·.1)).any e = ps.any (·.2) := by
  refine ⟨fun y => ps.any fun p => p.1 == y && p.2, fun y hy => ?_, ?_⟩
  · obtain ⟨p, hp, rfl⟩ := List.mem_map.mp hy
    cases q : ps.any fun p' => p'.1 == p.1 && p'.2 with
    | true =>
      obtain ⟨p', hp', z⟩ := List.any_eq_true.mp q
      rw [Bool.and_eq_true, beq_iff_eq] at z
      have := h p' hp'
      rw [z.1, z.2] at this
      show EqAt A s p.1 x (ps.any fun p' => p'.1 == p.1 && p'.2)
      rw [q]
      exact this
    | false =>
      have z := List.any_eq_false.mp q p hp
      have : p.2 = false := by
        cases hb : p.2 with
        | false => rfl
        | true => exact absurd (by simp [hb]) z
      show EqAt A s p.1 x (ps.any fun p' => p'.1 == p.1 && p'.2)
      rw [q, ← this]; exact h p hp
  · rw [Bool.eq_iff_iff, List.any_eq_true, List.any_eq_true]
    constructor
    · rintro ⟨y, hy, hz⟩
      obtain ⟨p', hp', z⟩ := List.any_eq_true.mp hz
      rw [Bool.and_eq_true] at z
      exact ⟨p', hp', z.2⟩
    · rintro ⟨p, hp, z⟩
      exact ⟨p.1, List.mem_map_of_mem hp, List.any_eq_true.mpr ⟨p, hp, by simp [z]⟩⟩

def RB (_ : OM) (b : Bool) (v : Value) : Prop := v = .bool b
theorem RB.vr {W : OM} {b : Bool} {v : Value} (h : RB W b v) : VR W (.bool b) v := by cases h; exact .bool b
theorem sys_low (O : B.Ok) (S : Sim B W H s) {a : Addr} {i : Nat} (e : W a = some (.obj i)) : (a == sysModules) = false := by
  rw [beq_eq_false_iff_ne]
  rintro rfl
  obtain ⟨o, h⟩ := O.sys
  rcases S.base _ o h with q | ⟨ps, c, _, q, _⟩ <;> rw [e] at q <;> cases q

theorem in_sound (O : B.Ok) {v u : V} {c d : Value} {b : Bool} (r : VR W v c) (r' : VR W u d) (h : inV B.K H v u = some b) (hu : A.units + 10 < 9900) :
    Sm B A W H (compareOp .In c d) RB b H ∧ Sm B A W H (compareOp .NotIn c d) RB (!b) H := by
  have items : ∀ {s : Shared}, Sim B W H s → ∀ {xs : List V} {cs : List Value}, VRs W xs cs → anyEq (fun y => eqV B.K H ED y v) xs = some b → ∃ e : Value → Bool, (∀ y ∈ cs, EqAt A.in1 s y c (e y)) ∧ cs.any e = b := by
    intro s S xs cs z hb
    obtain ⟨ps, h1, h2, h3⟩ := anyEq_sound (s := s) (x := c) (A := A.in1) (fun w e b rw hb => (eqV_sound O S ED w v e c b A.in1 rw r hb (by
      have : cLine = 9900 := rfl
      rw [this]
      show A.units + 1 + 5 < 9900
      omega)).2.2) z hb
    obtain ⟨e, g1, g2⟩ := any_fun h2
    subst h1
    exact ⟨e, g1, g2.trans h3.symm⟩
  have lst : ∀ {xs : List V}, listOf B.K H u = some xs → anyEq (fun y => eqV B.K H ED y v) xs = some b → Sm B A W H (compareOp .In c d) RB b H ∧ Sm B A W H (compareOp .NotIn c d) RB (!b) H := by
    intro xs hl hb
    constructor
    · intro E Q s S q
      obtain ⟨a, cvs, rfl, il, z⟩ := listOf_isList O S r' hl
      obtain ⟨e, g1, g2⟩ := items S z hb
      exact in_listAt e il (fun y hy => g1 y (Array.mem_toList_iff.mpr hy)) (by rw [← Array.any_toList, g2]; exact q _ s W (Le.refl W) S rfl)
    · intro E Q s S q
      obtain ⟨a, cvs, rfl, il, z⟩ := listOf_isList O S r' hl
      obtain ⟨e, g1, g2⟩ := items S z hb
      exact notIn_listAt e il (fun y hy => g1 y (Array.mem_toList_iff.mpr hy)) (by rw [← Array.any_toList, g2]; exact q _ s W (Le.refl W) S rfl)
  have dct : ∀ {kvs : List (Int × V)} {k : Int} {t : Tok}, c = .int k t → dictOfV B.K H u = some kvs → some (findK k kvs).isSome = some b → (∀ s, Sim B W H s → ∀ a, d = .ref a → (a == sysModules) = false) → Sm B A W H (compareOp .In c d) RB b H ∧ Sm B A W H (compareOp .NotIn c d) RB (!b) H := by
    intro kvs k t hc hl hb hs
    subst hc
    cases hb
    have key : ∀ {es : List DictEntry}, KR W kvs es → (findBy Value.isInt es.toArray k).isSome = (findK k kvs).isSome := by
      intro es z
      rw [findBy_list]
      have := KR.find k z
      cases hf : findK k kvs with
      | none => rw [hf] at this; rw [this]; rfl
      | some w => rw [hf] at this; obtain ⟨e, h1, _⟩ := this; rw [h1]; rfl
    constructor
    · intro E Q s S q
      obtain ⟨a, es, n, rfl, g, z⟩ := dictOf_sound O S r' hl
      exact wpAny_in_of (knd := intKind B.prog B.w) (k := k) (by simp [intKind, Value.isInt]) (hs s S a rfl) (mapOf g z B.prog B.w) (by rw [key z]; exact q _ _ W (Le.refl W) (S.tok _) rfl)
    · intro E Q s S q
      obtain ⟨a, es, n, rfl, g, z⟩ := dictOf_sound O S r' hl
      exact wpAny_notIn_of (knd := intKind B.prog B.w) (k := k) (by simp [intKind, Value.isInt]) (hs s S a rfl) (mapOf g z B.prog B.w) (by rw [key z]; exact q _ _ W (Le.refl W) (S.tok _) rfl)
  cases r' with
  | @tup vs cvs a n e z =>
    simp only [inV] at h
    constructor
    · intro E Q s S q
      obtain ⟨f, g1, g2⟩ := items S z h
      exact in_tupleAt (items := cvs.toArray) f ⟨_, S.fro _ _ e, rfl, n, rfl⟩ (fun y hy => g1 y (by simpa using hy)) (by rw [List.any_toArray, g2]; exact q _ s W (Le.refl W) S rfl)
    · intro E Q s S q
      obtain ⟨f, g1, g2⟩ := items S z h
      exact notIn_tupleAt (items := cvs.toArray) f ⟨_, S.fro _ _ e, rfl, n, rfl⟩ (fun y hy => g1 y (by simpa using hy)) (by rw [List.any_toArray, g2]; exact q _ s W (Le.refl W) S rfl)
  | @ref i a e =>
    simp only [inV] at h
    split at h
    · rename_i hl; exact lst hl h
    · split at h
      · rename_i k kvs hk
        cases r with
        | int _ t => exact dct rfl hk h fun s S a' e' => by cases e'; exact sys_low O S e
      · cases h
  | @stat a o e =>
    simp only [inV] at h
    split at h
    · rename_i hl; exact lst hl h
    · split at h
      · rename_i k kvs hk
        split at h
        · cases h
        · rename_i hne
          cases r with
          | int _ t => exact dct rfl hk h fun s S a' e' => by cases e'; simpa using hne
      · cases h
  | bytes x t =>
    simp only [inV] at h
    split at h
    · rename_i k
      split at h
      · rename_i hk
        cases h
        cases r with
        | int _ u =>
          constructor
          · intro E Q s S q
            exact in_gives (typeIs_bytes s x t) FB.slot_bytes_contains FB.entry_bytes_contains (FB.args_bytes_contains_2 _ _) (gives_bytes_contains x k t u hk.1 hk.2) (q _ s W (Le.refl W) S rfl)
          · intro E Q s S q
            exact notIn_gives (typeIs_bytes s x t) FB.slot_bytes_contains FB.entry_bytes_contains (FB.args_bytes_contains_2 _ _) (gives_bytes_contains x k t u hk.1 hk.2) (q _ s W (Le.refl W) S rfl)
      · cases h
    · cases h
  | _ => simp only [inV] at h; cases h

theorem is_sound (O : B.Ok) {v u : V} {c d : Value} {b : Bool} (r : VR W v c) (r' : VR W u d) (h : isV B.K v u = some b) :
    Sm B A W H (compareOp .Is c d) RB b H ∧ Sm B A W H (compareOp .IsNot c d) RB (!b) H := by
  cases r' with
  | none =>
    have hb : (c == Value.none) = b := by cases r <;> simp only [isV] at h <;> cases h <;> first | rfl | decide
    constructor
    · intro E Q s S q
      exact is_none (by rw [hb]; exact q _ s W (Le.refl W) S rfl)
    · intro E Q s S q
      exact isNot_none (by rw [hb]; exact q _ s W (Le.refl W) S rfl)
  | @stat x o e =>
    cases r with
    | @stat y o' e' =>
      simp only [isV] at h
      split at h
      · rename_i oa ob h1 h2
        split at h
        · rename_i es hes
          cases h
          obtain ⟨n, rfl⟩ := asDct_eq hes
          by_cases hxy : y = x
          · subst hxy
            constructor
            · intro E Q s S q
              exact wpAny_is_ref_self (by have := q (.bool (y == y)) s W (Le.refl W) S rfl; rwa [beq_self_eq_true] at this)
            · intro E Q s S q
              exact wpAny_isNot_ref_self (by have := q (.bool (!(y == y))) s W (Le.refl W) S rfl; rwa [beq_self_eq_true] at this)
          · have hb : (y == x) = false := by simpa using hxy
            rw [hb]
            constructor
            · intro E Q s S q
              exact wpAny_is_ref_other hxy (S.fro _ _ (S.kfro O h1)) (S.fro _ _ (S.kfro O h2)) (by intro e; injection e with e; exact absurd e (by decide)) (q _ s W (Le.refl W) S rfl)
            · intro E Q s S q
              exact wpAny_isNot_ref_other hxy (S.fro _ _ (S.kfro O h1)) (S.fro _ _ (S.kfro O h2)) (by intro e; injection e with e; exact absurd e (by decide)) (q _ s W (Le.refl W) S rfl)
        · cases h
      · cases h
    | _ => simp only [isV] at h; cases h
  | _ => cases r <;> simp only [isV] at h <;> cases h

theorem cmp_sound (O : B.Ok) {op : CmpOp} {v u : V} {c d : Value} {b : Bool} (r : VR W v c) (r' : VR W u d) (h : cmpV B.K H op v u = some b) (hu : A.units + 10 < 9900) :
    Sm B A W H (compareOp op c d) RB b H := by
  have hc : A.units + ED < cLine := by
    have h1 : cLine = 9900 := rfl
    have h2 : ED = 5 := rfl
    rw [h1, h2]
    omega
  have he : ∀ {b : Bool}, eqV B.K H ED v u = some b → ∀ s, Sim B W H s → Eq3 A s c d b := fun hb s S => eqV_sound O S ED v u c d _ A r r' hb hc
  have neg : ∀ {x : Option Bool} {b : Bool}, (match x with | some r => some (!r) | none => none) = some b → ∃ y, x = some y ∧ b = !y := by
    intro x b hx
    split at hx
    · cases hx; exact ⟨_, rfl, rfl⟩
    · cases hx
  cases op <;> simp only [cmpV] at h
  case Eq => exact fun E Q s S q => (he h s S).1 _ _ _ _ (q _ s W (Le.refl W) S rfl)
  case NotEq =>
    obtain ⟨y, hy, rfl⟩ := neg h
    exact fun E Q s S q => (he hy s S).2.1 _ _ _ _ (q _ s W (Le.refl W) S rfl)
  case Is => exact (is_sound O r r' h).1
  case IsNot =>
    obtain ⟨y, hy, rfl⟩ := neg h
    exact (is_sound O r r' hy).2
  case In => exact (in_sound O r r' h hu).1
  case NotIn =>
    obtain ⟨y, hy, rfl⟩ := neg h
    exact (in_sound O r r' hy hu).2
  case Lt =>
    split at h
    · cases h
      cases r
      cases r'
      exact fun E Q s S q => PyProof.Rows.lt_int (q _ s W (Le.refl W) S rfl)
    · cases h
  case LtE =>
    split at h
    · cases h
      cases r
      cases r'
      exact fun E Q s S q => PyProof.Rows.le_int (q _ s W (Le.refl W) S rfl)
    · cases h
  case Gt =>
    split at h
    · cases h
      cases r
      cases r'
      exact fun E Q s S q => PyProof.Rows.gt_int (q _ s W (Le.refl W) S rfl)
    · cases h
  case GtE =>
    split at h
    · cases h
      cases r
      cases r'
      exact fun E Q s S q => PyProof.Rows.ge_int (q _ s W (Le.refl W) S rfl)
    · cases h
end
end Mini

namespace Mini
open PySem PySem.W PySem.W.X PySem.Calls PyProof.Rows Builtin

section
variable {B : Base} {A : Around} {W W' : OM} {H H' : Hp} {env : Env} {sc : Scope} {ρ φ : Loc} {s : Shared}

theorem small64 {a : Int} (h : a.natAbs < 2 ^ 63) : Builtin.Int.intBits a ≤ 64 := intBits_le_64 (by omega) (by omega)
theorem intOp_sound {op : Operator} {x y z : Int} {t u : Tok} (h : intOp op x y = some z) :
    Sm B A W H (binaryOp op (.int x t) (.int y u)) VR (.int z) H ∧ Sm B A W H (inplaceOp op (.int x t) (.int y u)) VR (.int z) H := by
  have q' : ∀ {z : Int} {Q : Value → Shared → Prop} {s : Shared}, Sim B W H s → (∀ c s' W', Le W W' → Sim B W' H s' → VR W' (.int z) c → Q c s') → Q (.int z s.toks) { s with toks := s.toks + 1 } := fun S q => q _ _ W (Le.refl W) (S.tok _) (.int _ _)
  cases op <;> simp only [intOp] at h
  case Add => cases h; exact ⟨fun E Q s S q => add_int (q' S q), fun E Q s S q => iadd_int (q' S q)⟩
  case Sub => cases h; exact ⟨fun E Q s S q => sub_int (q' S q), fun E Q s S q => isub_int (q' S q)⟩
  case Mult =>
    split at h
    · rename_i hz
      cases h
      have m : IntMulOk x y := IntMulOk.of_left (small64 hz.1)
      exact ⟨fun E Q s S q => mul_int (q' S q) m, fun E Q s S q => imul_int (q' S q) m⟩
    · cases h
  case FloorDiv =>
    split at h
    · cases h
    · split at h
      · rename_i h0 hz
        cases h
        have hp : Builtin.divisionGoesByPylong x y = false := PyProof.noPylong_small (by omega)
        exact ⟨fun E Q s S q => floordiv_int h0 (q' S q) (.inl hp), fun E Q s S q => ifloordiv_int h0 (q' S q) (.inl hp)⟩
      · cases h
  case Mod =>
    split at h
    · cases h
    · rename_i h0
      cases h
      exact ⟨fun E Q s S q => mod_int' h0 (q' S q), fun E Q s S q => imod_int h0 (q' S q)⟩
  case LShift =>
    split at h
    · rename_i hz
      cases h
      exact ⟨fun E Q s S q => lshift_int_small hz.1 (by omega) hz.2.2 (q' S q), fun E Q s S q => ilshift_int_small hz.1 (by omega) hz.2.2 (q' S q)⟩
    · cases h
  case RShift =>
    split at h
    · rename_i hz
      cases h
      exact ⟨fun E Q s S q => rshift_int hz (q' S q), fun E Q s S q => irshift_int hz (q' S q)⟩
    · cases h
  case BitAnd => cases h; exact ⟨fun E Q s S q => and_int (q' S q), fun E Q s S q => iand_int (q' S q)⟩
  case BitOr => cases h; exact ⟨fun E Q s S q => or_int (q' S q), fun E Q s S q => ior_int (q' S q)⟩
  case BitXor => cases h; exact ⟨fun E Q s S q => xor_int (q' S q), fun E Q s S q => ixor_int (q' S q)⟩
  case Pow =>
    split at h
    · rename_i hz
      cases h
      exact ⟨fun E Q s S q => pow_int_small hz.1 (by omega) (by omega) (q' S q), fun E Q s S q => ipow_int_small hz.1 (by omega) (by omega) (q' S q)⟩
    · cases h
  all_goals cases h

theorem newL_sm {xs : List V} {v : V} {Q : Value → Shared → Prop} {cvs : Array Value} (S : Sim B W H s) (h : newL xs H = some (v, H')) (z : VRs W xs cvs.toList)
    (q : ∀ c s' W', Le W W' → Sim B W' H' s' → VR W' v c → Q c s') : Q (.ref s.heap.objs.size) { s with heap := s.heap.push { cls := .type "list", data := .seq cvs } } := by
  unfold newL at h
  split at h
  · cases h
    exact q _ _ _ (le_put S.push_none) (S.push_list z 0 s.toks) (.ref (put_self _ _ _))
  · cases h
theorem newL_len {xs : List V} {r : V × Hp} (h : newL xs H = some r) : xs.length ≤ maxL := by
  unfold newL at h
  split at h
  · assumption
  · cases h

theorem repeat_VRs {W : OM} {xs : List V} {cs : List Value} (z : VRs W xs cs) : ∀ n : Nat, VRs W (repeatL xs n) (List.replicate n cs).flatten
  | 0 => by simpa [repeatL] using VRs.nil
  | n + 1 => by rw [repeatL, List.replicate_succ, List.flatten_cons]; exact z.append (repeat_VRs z n)
theorem repeatL_length {xs : List V} : ∀ n : Nat, (repeatL xs n).length = xs.length * n
  | 0 => rfl
  | n + 1 => by rw [repeatL, List.length_append, repeatL_length n, Nat.mul_add, Nat.mul_one, Nat.add_comm]

/-- a list is changed in its place -/
theorem Sim.change_list (S : Sim B W H s) {a : Addr} {i : Nat} {xs xs' : List V} {cvs' : Array Value} {n' : Nat} {h' : Heap} (ha : W a = some (.obj i)) (hi : H[i]? = some (.list xs)) (hs : Heap.SameBut a s.heap h') (hg : h'.get? a = some (lstObj cvs' n')) (z : VRs W xs' cvs'.toList) (t : Nat) :
    Sim B W (H.set i (.list xs')) { s with heap := h', toks := t } :=
  S.change ha t (fun b hb _ => hs.2 b hb) ⟨cvs', n', hg, z⟩ (fun d hd => by
    obtain ⟨o, e⟩ := S.dct d i hd
    exact ⟨o, (hs.2 d (fun q => by rw [q, ha] at hd; cases hd)).trans e⟩) hi
theorem sameBut_update {h : Heap} {a : Addr} {f : Obj → Obj} : Heap.SameBut a h (h.update a f) := ⟨Heap.size_update _ _ _, fun b hb => Heap.get?_update_other _ _ (Ne.symm hb)⟩
end
end Mini
namespace Mini
open PySem PySem.W PySem.W.X PySem.Calls PyProof.Rows Builtin

/-- the code gives what the small language gives -/
def Cd (B : Base) (A : Around) (W : OM) (H : Hp) (c : Code) (v : V) (H' : Hp) : Prop :=
  ∀ (R : Result → Shared → Prop) (s : Shared), Sim B W H s → (∀ c s' W', Le W W' → Sim B W' H' s' → VR W' v c → R (.ok (.ret c)) s') → codeAny B.m A c R s

def KwR (W : OM) : List (Str × V) → List (Str × Value) → Prop
  | [], [] => True
  | (x, v) :: r, (y, c) :: r' => x = y ∧ VR W v c ∧ KwR W r r'
  | _, _ => False
/-- calls are sound -/
def CallS (B : Base) (n : Nat) (r : Rec) : Prop := ∀ {f : V} {args : List V} {kw : List (Str × V)} {H : Hp} {v : V} {H' : Hp} {A : Around} {W : OM} {fc : Value} {acs : List Value} {kcs : List (Str × Value)},
  r.call f args kw H = some (v, H') → Rm n A → VR W f fc → VRs W args acs → KwR W kw kcs → Cd B A W H (.call fc ⟨acs, kcs⟩) v H'

section
variable {B : Base} {A : Around} {W W' : OM} {H H' : Hp} {env : Env} {sc : Scope} {ρ φ : Loc} {s : Shared} {v u : V} {c d : Value} {n : Nat} {r : Rec}

theorem Cd.sm {f : Value} {acs : List Value} {kcs : List (Str × Value)} (h : Cd B A W H (.call f ⟨acs, kcs⟩) v H') : Sm B A W H (call f acs kcs) VR v H' := fun E Q s S q => wpAny_call (h _ s S q)
theorem VR.impl (h : VR W v c) : c ≠ .notImplemented := by intro e; subst e; cases h
theorem VR.stat' (O : B.Ok) (S : Sim B W H s) {a : Addr} {o : Obj} (e : B.K.lookup a = some o) : VR W (.stat a) (.ref a) := .stat (S.kfro O e)
theorem fn_look {K : Frag} {f : Addr} (h : fnIn K f = true) : ∃ c d fd sl, K.lookup f = some ⟨c, d, .func fd, sl⟩ := by
  unfold fnIn at h
  split at h
  · rename_i c d fd sl e; exact ⟨c, d, fd, sl, e⟩
  · cases h
theorem isFn_look {K : Frag} {f : Addr} (h : isFn K (.ref f) = true) : ∃ o, K.lookup f = some o := by
  unfold isFn typeIn at h
  cases e : K.lookup f with
  | some o => exact ⟨o, rfl⟩
  | none => simp [e] at h
theorem methIn_of {K : Frag} {C f : Addr} {x : Str} (h : methIn K C x = some f) : findIn K (.ref C) x = some (some (.ref f)) ∧ fnIn K f = true ∧ isFn K (.ref f) = true := by
  unfold methIn at h
  split at h
  · rename_i p e
    split at h
    · rename_i q
      cases h
      obtain ⟨a, b⟩ := Bool.and_eq_true_iff.mp q
      exact ⟨e, a, b⟩
    · cases h
  · cases h
theorem meth_vr (O : B.Ok) (S : Sim B W H s) {f : Addr} (h : isFn B.K (.ref f) = true) : VR W (.stat f) (.ref f) := let ⟨_, e⟩ := isFn_look h; VR.stat' O S e

/-- an instance of the program's class, at its place -/
theorem inst_at (S : Sim B W H s) {i : Nat} {C : Addr} {fs : List (Str × V)} {a : Addr} (ha : W a = some (.obj i)) (hi : H[i]? = some (.inst C fs)) :
    ∃ d es m, s.heap.get? a = some (instObj C d) ∧ W d = some (.dct i) ∧ s.heap.get? d = some (dictOf es m) ∧ FR W fs es ∧ InstAt s.heap a (instObj C d) C (some (dictOf es m)) := by
  obtain ⟨o, h1, c⟩ := S.obj _ _ ha
  rw [hi] at h1
  cases h1
  obtain ⟨d, es, m, e1, e2, e3, e4⟩ := c
  exact ⟨d, es, m, e1, e2, e3, e4, e1, rfl, rfl, e3⟩

theorem FR.refKey : ∀ {fs : List (Str × V)} {es : List DictEntry}, FR W fs es → es.any (·.refKey) = false
  | [], [], _ => rfl
  | (x, v) :: fs, e :: es, ⟨⟨t, a⟩, _, c⟩ => by rw [List.any_cons, FR.refKey c, Bool.or_false]; unfold DictEntry.refKey; rw [a]
  | [], _ :: _, x => x.elim
  | _ :: _, [], x => x.elim
theorem str_beq_comm (x y : Str) : (x == y) = (y == x) := by
  rw [Bool.eq_iff_iff, beq_iff_eq, beq_iff_eq]; exact eq_comm
theorem FR.find (x : Str) : ∀ {fs : List (Str × V)} {es : List DictEntry}, FR W fs es → match getF x fs with
    | some v => ∃ e, es.find? (·.key.isStr x) = some e ∧ VR W v e.val
    | none => es.find? (·.key.isStr x) = none
  | [], [], _ => rfl
  | (y, v) :: fs, e :: es, ⟨⟨t, a⟩, b, c⟩ => by
    have ih := FR.find x c
    have k : e.key.isStr x = (x == y) := by rw [a]; exact str_beq_comm _ _
    unfold getF
    cases h : x == y with
    | true => exact ⟨e, by rw [List.find?_cons, k, h], b⟩
    | false => rw [List.find?_cons, k, h]; exact ih
  | [], _ :: _, x => x.elim
  | _ :: _, [], x => x.elim
theorem FR.getL_some {x : Str} {fs : List (Str × V)} {es : List DictEntry} {v : V} (f : FR W fs es) (h : getF x fs = some v) : ∃ c, getL x es = some (some c) ∧ VR W v c := by
  have := f.find x
  rw [h] at this
  obtain ⟨e, h1, h2⟩ := this
  exact ⟨e.val, by unfold getL; rw [h1], h2⟩
theorem FR.getL_none {x : Str} {fs : List (Str × V)} {es : List DictEntry} (f : FR W fs es) (h : getF x fs = none) : getL x es = some none := by
  have := f.find x
  rw [h] at this
  unfold getL
  rw [this, f.refKey]
  rfl
theorem FR.getL_is {x : Str} {fs : List (Str × V)} {es : List DictEntry} (f : FR W fs es) : (getL x es).isSome = true := by
  cases h : getF x fs with
  | none => rw [f.getL_none h]; rfl
  | some v => obtain ⟨c, e, _⟩ := f.getL_some h; rw [e]; rfl
theorem FR.length : ∀ {fs : List (Str × V)} {es : List DictEntry}, FR W fs es → fs.length = es.length
  | [], [], _ => rfl
  | (y, v) :: fs, e :: es, ⟨_, _, c⟩ => by rw [List.length_cons, List.length_cons, c.length]
  | [], _ :: _, x => x.elim
  | _ :: _, [], x => x.elim
theorem FR.put {x : Str} {hsh : Int} {t : Tok} (r : VR W v c) : ∀ {fs : List (Str × V)} {es : List DictEntry}, FR W fs es → FR W (putF x v fs) (putL x hsh (.str x t) c es)
  | [], [], _ => ⟨⟨t, rfl⟩, r, trivial⟩
  | (y, w) :: fs, e :: es, ⟨⟨t', a⟩, b, z⟩ => by
    have k : e.key.isStr x = (y == x) := by rw [a]; rfl
    unfold putF putL
    cases h : y == x with
    | true => rw [if_pos (by rw [k, h])]; exact ⟨⟨t', a⟩, r, z⟩
    | false => rw [if_neg (by rw [k, h]; exact Bool.false_ne_true)]; exact ⟨⟨t', a⟩, b, FR.put r z⟩
  | [], _ :: _, x => x.elim
  | _ :: _, [], x => x.elim
theorem putL_length {x : Str} {hsh : Int} {key c : Value} : ∀ {es : List DictEntry}, (putL x hsh key c es).length ≤ es.length + 1
  | [] => Nat.le_refl _
  | e :: es => by
    unfold putL
    split
    · simp
    · rw [List.length_cons, List.length_cons]; exact Nat.succ_le_succ putL_length
theorem VR.handed (h : VR W v c) (hb : ∀ n, v ≠ .bi n) : handedIn c = true := by cases h <;> first | rfl | exact absurd rfl (hb _)

/-- a field is stored in the instance's own dict -/
theorem store_field (O : B.Ok) (S : Sim B W H s) {i : Nat} {C : Addr} {fs : List (Str × V)} {a : Addr} {x : Str} {tk : Tok} {R : Result → Shared → Prop} (ha : W a = some (.obj i)) (hi : H[i]? = some (.inst C fs)) (r : VR W v c) (hz : fs.length < 900)
    (hp : plainOver B.K C = true) (ht : takerIn B.K C x = some none) (hh : hasDictIn B.K C = true)
    (h : ∀ s', Sim B W (H.set i (.inst C (putF x v fs))) s' → R (.ok (.ret .none)) s') : codeAny B.m A (.call (.builtin "object.__setattr__") ⟨[.ref a, .str x tk, c], []⟩) R s := by
  obtain ⟨d, es, m, e1, e2, e3, e4, I⟩ := inst_at S ha hi
  refine osa_open (S.kin O) I hp ht fun b => ?_
  obtain ⟨cd, hc, hd'⟩ := any_some hh
  have hne : d ≠ a := fun q => by rw [q, ha] at e2; cases e2
  have zl : (putL x (PyData.keyHash B.w.params x) (.str x s.toks) c es).length ≤ 1000 := by
    have := @putL_length x (PyData.keyHash B.w.params x) (.str x s.toks) c es
    have := e4.length
    omega
  have sb : Heap.SameBut d s.heap (s.heap.update d (Obj.putName x (PyData.keyHash B.w.params x) (.str x s.toks) c)) := sameBut_update
  have g1 : (s.heap.update d (Obj.putName x (PyData.keyHash B.w.params x) (.str x s.toks) c)).get? d = some (dictOf (putL x (PyData.keyHash B.w.params x) (.str x s.toks) c es) (putN x es m)) := by
    have := Heap.get?_update_self (Obj.putName x (PyData.keyHash B.w.params x) (.str x s.toks) c) e3 (by rw [putName_dict]; rfl)
    rw [this, putName_dict]
  refine wpAny_bind (wpAny_pure (wpAny_bind (wpAny_bind (wpAny_loadPart e1 (wpAny_bind ((looks_clsIn (S.kin O) hc).here ?_))))))
  rw [hd']
  refine wpAny_pure (a := some d) (wpAny_bind (wpAny_pure (wpAny_bind ?_)))
  unfold nsSet
  refine wpAny_bind (wpAny_bind (wpAny_askSetting (wpAny_pure (wpAny_bind (wpAny_mkText (wpAny_bind (wpAny_loadPart e3 ?_)))))))
  dsimp only
  have nr : aRefKeyMayBeTheName x es.toArray = false := by
    rw [aRefKeyMayBeTheName_at, ← Array.any_toList, ← Array.any_toList, e4.refKey, Bool.and_false]
  rw [nr]
  refine wpAny_updatePart e3 ?_
  refine wpAny_bind (wpAny_lookBehind g1 (pastItsLine_dict (by rw [List.size_toArray, sizeLine_eq]; omega)) ?_)
  refine wpAny_pure (h _ (S.change ha _ (fun b hb hd => sb.2 b fun q => hd (q ▸ e2)) ⟨d, _, _, (sb.2 a (Ne.symm hne)).trans e1, e2, g1, e4.put r⟩ (fun b hb => ?_) hi))
  by_cases q : b = d
  · subst q; exact ⟨_, g1⟩
  · obtain ⟨o, e⟩ := S.dct b i hb
    exact ⟨o, (sb.2 b q).trans e⟩

theorem setAttr_sound (O : B.Ok) (hr : CallS B n r) (hA : Rm (n + 1) A) {o : V} {x : Str} {oc : Value} (ro : VR W o oc) (rv : VR W v c) (h : setAttr B.K r o x v H = some H') : Sm B A W H (PySem.setAttr oc x c) (fun _ (_ _ : Unit) => True) () H' := by
  cases ro with
  | @ref i a ha =>
    simp only [Mini.setAttr] at h
    split at h
    · rename_i C fs hi
      split at h
      · rename_i hz
        split at h
        · rename_i hk
          cases h
          unfold setKind at hk
          split at hk
          · rename_i hg
            obtain ⟨hg, hh⟩ := Bool.and_eq_true_iff.mp hg
            obtain ⟨hs, hp⟩ := Bool.and_eq_true_iff.mp hg
            split at hk
            · rename_i ht
              intro E Q s S q
              obtain ⟨d, es, m, e1, e2, e3, e4, I⟩ := inst_at S ha hi
              exact set_plain (S.kin O) I (beq_iff_eq.mp hs) (store_field O (S.tok _) ha hi rv hz hp ht hh fun s' S' => q () s' W (Le.refl W) S' trivial)
            · repeat' (split at hk)
              all_goals cases hk
            · cases hk
          · cases hk
        · rename_i g hk
          split at h
          · rename_i u H'' hcall
            cases h
            unfold setKind at hk
            split at hk
            · rename_i hg
              obtain ⟨hg, hh⟩ := Bool.and_eq_true_iff.mp hg
              obtain ⟨hs, hp⟩ := Bool.and_eq_true_iff.mp hg
              split at hk
              · cases hk
              · rename_i p ht
                split at hk
                · rename_i hT
                  split at hk
                  · rename_i a0 g' rest hrec
                    split at hk
                    rotate_left
                    · cases hk
                    rename_i hfn
                    cases hk
                    intro E Q s S q
                    obtain ⟨d, es, m, e1, e2, e3, e4, I⟩ := inst_at S ha hi
                    have X := S.kin O
                    refine set_plain X I (beq_iff_eq.mp hs) (osa_descr (s := { s with toks := s.toks + 1 }) KF.slot_pset X I hp ht (beq_iff_eq.mp hT) (prop_set (s := { s with toks := s.toks + 1 }) X hrec ?_))
                    have := hr (A := A.in1.in1) (kcs := []) hcall hA.in2 (meth_vr O S hfn) (.cons (.ref ha) (.cons rv .nil)) trivial
                    exact this _ _ (S.tok _) fun c' s' W' l S' z => q () s' W' l S' trivial
                  · cases hk
                · cases hk
              · cases hk
            · cases hk
          · cases h
        · cases h
      · cases h
    · cases h
  | _ => simp only [Mini.setAttr] at h; cases h
end
end Mini
namespace Mini
open PySem PySem.W PySem.W.X PySem.Calls PyProof.Rows Builtin

section
variable {B : Base} {A : Around} {W W' : OM} {H H' : Hp} {env : Env} {sc : Scope} {ρ φ : Loc} {s : Shared} {v u : V} {c d : Value} {n : Nat} {r : Rec}

theorem noBi_of {x : Option (V × Hp)} {v : V} {H : Hp} (h : noBi x = some (v, H)) : x = some (v, H) ∧ ∀ k, v ≠ .bi k := by
  unfold noBi at h
  split at h
  · cases h
  · rename_i hn
    refine ⟨h, fun k q => ?_⟩
    subst q
    exact hn _ _ h
theorem statFs_FR {K : Frag} (k : KFro K W) : ∀ {es : List DictEntry} {fs : List (Str × V)}, statFs K es = some fs → FR W fs es
  | [], _, h => by cases h; trivial
  | e :: r, fs, h => by
    unfold statFs at h
    split at h
    · rename_i x t v l h1 h2 h3
      cases h
      exact ⟨⟨t, h1⟩, ofVal_VR k _ _ _ h2, statFs_FR k h3⟩
    · cases h
theorem prop_own (X : B.K.In s.heap) {a p g : Addr} {C : Addr} {ox od : Obj} {x : Str} {rest : List Value} {expr : Bool} {Q : Value → Shared → Prop} {E : Value → Shared → Prop} (I : InstAt s.heap a ox C (some od)) (hg : plainGet B.K C x = true) (hh : hasDictIn B.K C = true)
    (ha : findIn B.K (.ref C) x = some (some (.ref p))) (hn : specialIn B.K (.ref p) "__get__" = some (some (.builtin "property.__get__"))) (ht : takesIn B.K (.ref p) = some true) (hp : recIn B.K p "property" = some (.ref g :: rest))
    (h : codeAny B.m A.in1 (.call (.ref g) ⟨[.ref a], []⟩) (fun r s' => match r with | .ok (.ret v) => wpAny B.m A (handedOut v) Q E s' | .ok _ => False | .error e => False) { s with toks := s.toks + 1 }) : wpAny B.m A (PySem.getAttr (.ref a) x expr) Q E s := by
  refine get_bind X I (plainGet_of hg).1 (findObj_data (by obtain ⟨cd, hc, _⟩ := any_some hh; rw [hc]; rfl) ha hn ht) (plainGet_of hg).2 (wpAny_call (prop_get (s := { s with toks := s.toks + 1 }) X hp (codeAny_mono h fun r s' z => ?_)))
  rcases r with e | (v | _ | _ | _) <;> first | exact z | exact z.elim

theorem getAttr_sound (O : B.Ok) (hr : CallS B n r) (hA : Rm (n + 1) A) {o : V} {x : Str} {oc : Value} {expr : Bool} (ro : VR W o oc) (h : getAttr B.K r o x H = some (v, H')) : Sm B A W H (PySem.getAttr oc x expr) VR v H' := by
  cases ro with
  | @ref i a ha =>
    simp only [Mini.getAttr] at h
    split at h
    · rename_i C fs hi
      split at h
      · rename_i hk
        split at h
        · rename_i w hf
          obtain ⟨h, nb⟩ := noBi_of h
          cases h
          unfold attrKind at hk
          split at hk
          · rename_i hg
            obtain ⟨hg, hh⟩ := Bool.and_eq_true_iff.mp hg
            split at hk
            · rename_i hfind
              intro E Q s S q
              obtain ⟨d, es, m, e1, e2, e3, e4, I⟩ := inst_at S ha hi
              obtain ⟨c, hl, rc⟩ := e4.getL_some hf
              exact get_value (S.kin O) I (plainGet_of hg).1 (findObj_own hh hfind rfl hl) (rc.handed nb) (q c _ W (Le.refl W) (S.tok _) rc)
            all_goals (repeat' (split at hk))
            all_goals cases hk
          · cases hk
        · cases h
      · rename_i w hk
        unfold attrKind at hk
        split at hk
        · rename_i hg
          obtain ⟨hg, hh⟩ := Bool.and_eq_true_iff.mp hg
          split at hk
          · cases hk
          · repeat' (split at hk)
            all_goals cases hk
          · rename_i cv hne hfind
            split at hk
            · rename_i hc
              obtain ⟨hc, hcop⟩ := Bool.and_eq_true_iff.mp hc
              obtain ⟨hget, hhan⟩ := Bool.and_eq_true_iff.mp hc
              split at hk
              · cases hk
              · rename_i v1 u1 hof
                cases hk
                intro E Q s S q
                obtain ⟨d, es, m, e1, e2, e3, e4, I⟩ := inst_at S ha hi
                split at h
                · rename_i w' hf
                  obtain ⟨h, nb⟩ := noBi_of h
                  cases h
                  obtain ⟨c, hl, rc⟩ := e4.getL_some hf
                  exact get_value (S.kin O) I (plainGet_of hg).1 (findObj_own hh hfind hget hl) (rc.handed nb) (q c _ W (Le.refl W) (S.tok _) rc)
                · rename_i hf
                  cases h
                  exact get_value (S.kin O) I (plainGet_of hg).1 (findObj_cls hh hfind (beq_iff_eq.mp hget) hhan (by simpa using hcop) (e4.getL_none hf)) hhan (q _ _ W (Le.refl W) (S.tok _) (ofVal_VR (S.kf O) 1 _ _ hof))
              · cases hk
            · cases hk
          · cases hk
        · cases hk
      · rename_i g hk
        obtain ⟨h, nb⟩ := noBi_of h
        unfold attrKind at hk
        split at hk
        · rename_i hg
          obtain ⟨hg, hh⟩ := Bool.and_eq_true_iff.mp hg
          split at hk
          · cases hk
          · rename_i p hfind
            split at hk
            · cases hk
            · split at hk
              · rename_i g' rest hrec
                split at hk
                · rename_i hc
                  cases hk
                  obtain ⟨hc, hfn⟩ := Bool.and_eq_true_iff.mp hc
                  obtain ⟨hget, htk⟩ := Bool.and_eq_true_iff.mp hc
                  intro E Q s S q
                  obtain ⟨d, es, m, e1, e2, e3, e4, I⟩ := inst_at S ha hi
                  refine prop_own (S.kin O) I hg hh hfind (beq_iff_eq.mp hget) (beq_iff_eq.mp htk) hrec ?_
                  have := hr (A := A.in1) (kcs := []) h hA.in1 (meth_vr O S hfn) (.cons (.ref ha) .nil) trivial
                  exact this _ _ (S.tok _) fun c' s' W' l S' z => handed_on (z.handed nb) (q c' s' W' l S' z)
                · cases hk
              · cases hk
          · repeat' (split at hk)
            all_goals cases hk
          · cases hk
        · cases hk
      · cases h
    · cases h
  | @stat p o e =>
    simp only [Mini.getAttr] at h
    split at h
    · rename_i C fs hst
      split at h
      · rename_i hk
        split at h
        · rename_i w hf
          obtain ⟨h, nb⟩ := noBi_of h
          cases h
          unfold statFields at hst
          split at hst
          · rename_i C' d sl hlook
            split at hst
            · rename_i od hod
              split at hst
              · rename_i es hes
                split at hst
                · rename_i fs' hfs
                  cases hst
                  obtain ⟨m, rfl⟩ := asDct_eq hes
                  unfold attrKind at hk
                  split at hk
                  · rename_i hg
                    obtain ⟨hg, hh⟩ := Bool.and_eq_true_iff.mp hg
                    split at hk
                    · rename_i hfind
                      intro E Q s S q
                      obtain ⟨c, hl, rc⟩ := (statFs_FR (S.kf O) hfs).getL_some hf
                      exact get_value (S.kin O) (InstAt.of_K (S.kin O) hlook hod) (plainGet_of hg).1 (findObj_own hh hfind rfl hl) (rc.handed nb) (q c _ W (Le.refl W) (S.tok _) rc)
                    all_goals (repeat' (split at hk))
                    all_goals cases hk
                  · cases hk
                · cases hst
              · cases hst
            · cases hst
          · cases hst
        · cases h
      · cases h
    · cases h
  | @own C vs cvs a m d e ed z =>
    simp only [Mini.getAttr] at h
    split at h
    · rename_i p f oC ht hC
      obtain ⟨h, nb⟩ := noBi_of h
      unfold tupDescr at ht
      split at ht
      · rename_i hg
        obtain ⟨hg, hcl⟩ := Bool.and_eq_true_iff.mp hg
        split at ht
        · rename_i p' hfind
          split at ht
          · rename_i f' po hsp hp
            split at ht
            · rename_i hc
              cases ht
              obtain ⟨htk, hfn⟩ := Bool.and_eq_true_iff.mp hc
              intro E Q s S q
              have I : InstAt s.heap a { cls := .ref C, dict := some d, data := .seq cvs.toArray m } C (some { cls := .type "dict", data := .dict #[] }) := ⟨S.fro _ _ e, rfl, rfl, S.fro _ _ ed⟩
              refine get_bind (S.kin O) I (plainGet_of hg).1 (findObj_data hcl hfind hsp (beq_iff_eq.mp htk)) (plainGet_of hg).2 (wpAny_call ?_)
              have := hr (A := A.in1) (kcs := []) h hA.in1 (meth_vr O S hfn) (.cons (VR.stat' O S hp) (.cons (.own e ed z) (.cons (VR.stat' O S hC) .nil))) trivial
              exact this _ _ (S.tok _) fun c' s' W' l S' z => handed_on (z.handed nb) (q c' s' W' l S' z)
            · cases ht
          · cases ht
        · cases ht
      · cases ht
    · cases h
  | _ => simp only [Mini.getAttr] at h; cases h
end
end Mini
namespace Mini
open PySem PySem.W PySem.W.X PySem.Calls PyProof.Rows Builtin

section
variable {B : Base} {A : Around} {W W' : OM} {H H' : Hp} {env : Env} {sc : Scope} {ρ φ : Loc} {s : Shared} {v u : V} {c d : Value} {n : Nat} {r : Rec}

/-! operators -/
theorem cmpBack {Q : Value → Shared → Prop} (r : VR W v c) (q : Q c s) : PySem.W.CmpBack Q c s := by cases r <;> exact q
theorem mul_any {prog : Program} {w : World} {E : Value → Shared → Prop} {Q : Value → Shared → Prop} {l : Addr} {k : Nat} {cvs : Array Value} {x : Int} {t : Tok} (hl : s.heap.get? l = some (lstObj cvs k)) (hx : x ≤ 100000) (hlo : -(2 ^ 63 : Int) ≤ x) (hsz : cvs.size * x.toNat ≤ maxL)
    (h : Q (.ref s.heap.objs.size) { s with heap := s.heap.push { cls := .type "list", data := .seq (List.replicate x.toNat cvs.toList).flatten.toArray } }) : wpAny (model prog w) A (binaryOp .Mult (.ref l) (.int x t)) Q E s := by
  have hz : maxL = 1000000 := rfl
  refine wpAny_binaryOp_repeat_ref (T := "list") (U := "int") (by decide) ⟨_, hl, rfl⟩ (fun s' => typeIs_int s' x t) noFill_list_mul F.fills_int_mul F.slot_int_rmul repeat_list F.slot_int_index.lookup
    (call_meets F.slot_int_rmul (typeIs_int s x t) F.entry_int_rmul (F.args_int_rmul_2 _ _) (int___rmul___int_list x t l cvs k)
      ⟨hl, rfl, ⟨_, hl, rfl⟩, call_meets F.slot_list_mul ⟨_, hl, rfl⟩ F.entry_list_mul (F.args_list_mul_2 _ _)
        (AutoListH.list___mul___list_int_3 l cvs k x t (by simp [Builtin.List.listFitsIndex]; omega) (by omega) (by simp [Builtin.List.listTooLong, sizeLine]; omega))
        ⟨hl, ?_⟩⟩)
  rw [listMul_foldl_if]
  exact h

theorem len_maxL {xs : List V} {cs : Array Value} (z : VRs W xs cs.toList) (h : xs.length ≤ maxL) : cs.size ≤ sizeLine := by
  rw [← Array.length_toList, ← z.length]; exact sz h

theorem binop_sound (O : B.Ok) (hr : CallS B n r) (hA : Rm (n + 1) A) {op : Operator} {a b : V} {ac bc : Value} (ra : VR W a ac) (rb : VR W b bc) (h : binop B.K r op a b H = some (v, H')) : Sm B A W H (binaryOp op ac bc) VR v H' := by
  unfold binop at h
  split at h
  · split at h
    · rename_i z hz
      cases h; cases ra; cases rb
      exact (intOp_sound hz).1
    · cases h
  · rename_i x y
    split at h
    · split at h
      · rename_i hz
        cases h; cases ra; cases rb
        exact fun E Q s S q => SB.add (fun t' k => q _ _ W (Le.refl W) (S.tok _) (.str _ _)) (sz hz)
      · cases h
    · cases h
  · rename_i x y
    split at h
    · split at h
      · rename_i hz
        cases h; cases ra; cases rb
        exact fun E Q s S q => KBy.add_bytes (by have : maxL = 1000000 := rfl; omega) (fun t' k => q _ _ W (Le.refl W) (S.tok _) (.bytes _ _))
      · cases h
    · cases h
  · rename_i a0 n0 _
    split at h
    · rename_i xs hl
      split at h
      · rename_i hn
        cases rb
        intro E Q s S q
        obtain ⟨l, cvs, k, rfl, g, z⟩ := listOf_sound O S ra hl
        have hlen := newL_len h
        rw [repeatL_length, z.length, Array.length_toList] at hlen
        refine mul_any g hn.2 (by omega) hlen (newL_sm S h ?_ q)
        simpa using repeat_VRs z n0.toNat
      · cases h
    · cases h
  · rename_i a0 b0 _ _ _ _
    split at h
    · rename_i xs ys hx hy
      intro E Q s S q
      obtain ⟨l, cvs, k, rfl, g, z⟩ := listOf_sound O S ra hx
      obtain ⟨l', cvs', k', rfl, g', z'⟩ := listOf_sound O S rb hy
      have hlen := newL_len h
      rw [List.length_append, z.length, z'.length, Array.length_toList, Array.length_toList] at hlen
      refine P.add_list g g' (newL_sm S h ?_ q) (sz hlen)
      rw [Array.toList_append]; exact z.append z'
    · split at h
      · rename_i i hl
        split at h
        · rename_i C fs hi
          split at h
          · rename_i j
            split at h
            · rename_i C' fs' hj
              split at h
              · rename_i hc
                obtain ⟨hc, hs⟩ := Bool.and_eq_true_iff.mp hc
                obtain rfl : C = C' := by simpa using hc
                split at h
                · rename_i f hm
                  obtain ⟨hf, hfn, hif⟩ := methIn_of hm
                  have ed : PySem.dunder Operator.Mod.info.2 = Str.ofString "__mod__" := by decide +kernel
                  rw [← ed] at hf
                  cases ra with
                  | @ref _ aa ea =>
                    cases rb with
                    | @ref _ ab eb =>
                      intro E Q s S q
                      obtain ⟨d, es, m, e1, e2, e3, e4, I⟩ := inst_at S ea hi
                      obtain ⟨d', es', m', f1, f2, f3, f4, J⟩ := inst_at S eb hj
                      have X := S.kin O
                      obtain ⟨cd, hcd, hm⟩ := any_some hs
                      obtain ⟨rest, hm⟩ : ∃ rest, cd.mro = .ref C :: rest := by
                        cases q : cd.mro with
                        | nil => rw [q] at hm; cases hm
                        | cons a r => rw [q] at hm; exact ⟨r, by rw [List.head?_cons] at hm; cases (beq_iff_eq.mp hm); rfl⟩
                      have hb : Looks B.m s.heap (typeOf (.ref ab)) (.ref C) := J.type
                      unfold binaryOp
                      refine wpAny_holding (wpAny_bind ?_)
                      unfold binaryOp1
                      refine wpAny_bind (I.type.here (wpAny_bind (hb.here (wpAny_bind ((fills_K X hcd hm hf).here ?_)))))
                      simp only [beq_self_eq_true, if_true]
                      refine wpAny_bind (wpAny_pure ?_)
                      simp only [Bool.and_false, Bool.false_eq_true, if_false, Bool.false_and]
                      refine wpAny_bind (wpAny_pure ?_)
                      simp only [Bool.false_eq_true, if_false]
                      refine wpAny_bind (m := tryMethod (.ref aa) _ (.ref ab)) ?_
                      unfold tryMethod
                      have := (hr (A := A) (kcs := []) h (hA.less) (meth_vr O S hif) (.cons (.ref ea) (.cons (.ref eb) .nil)) trivial).sm
                      refine wpAny_bind (special_fn X I hf (beq_iff_eq.mp hif) (this E _ s S fun c s' W' l S' z => ?_))
                      have hq := q c s' W' l S' z
                      cases z <;> exact wpAny_pure (wpAny_pure (wpAny_pure hq))
                · cases h
              · cases h
            · cases h
          · cases h
        · cases h
      · cases h
    · cases h


theorem inop_list {prog : Program} {w : World} {E : Value → Shared → Prop} {Q : Value → Shared → Prop} {l b : Addr} {k m : Nat} {cvs dvs : Array Value} (hl : s.heap.get? l = some (lstObj cvs k)) (hb : s.heap.get? b = some (lstObj dvs m)) (hz : cvs.size + dvs.size ≤ maxL)
    (h : Q (.ref l) { s with heap := s.heap.update l (Obj.mapSeq fun x => x ++ dvs) }) : wpAny (model prog w) A (inplaceOp .Add (.ref l) (.ref b)) Q E s := by
  have hz' : maxL = 1000000 := rfl
  have ta : s.TypeIs (.ref l) "list" := ⟨_, hl, rfl⟩
  have tb : s.TypeIs (.ref b) "list" := ⟨_, hb, rfl⟩
  have hl1 := F.slot_list_iadd.lookup
  have hfi : fillsInplaceSlot (.type "list") "add" (Operator.Add == .Add) = pure false := by
    unfold fillsInplaceSlot
    show (typeLookup (.type "list") (dunderI "add") >>= fun fi => pure (fi.isSome && !isSeqSlot fi)) = pure false
    rw [hl1, pure_bind]
    exact congrArg pure (by decide +kernel)
  have hsi : seqSlot? (.type "list") (dunderI "add") = pure (some (.builtin "list.__iadd__")) := PySem.seqSlot_of hl1 (by decide +kernel)
  unfold inplaceOp
  refine wpAny_holding ?_
  refine wpAny_bind (wpAny_typeOf ta (wpAny_bind (wpAny_of_eq hfi ?_)))
  show wpAny _ A (if false = true then _ else _) Q E s
  rw [if_neg Bool.false_ne_true]
  refine wpAny_bind (wpAny_binaryOp1_none (nm := "add") ta tb noFill_list_add ?_)
  refine wpAny_bind (wpAny_of_eq hsi ?_)
  refine wpAny_bind (wpAny_rule ?_)
  refine (call_meets F.slot_list_iadd ta F.entry_list_iadd (F.args_list_iadd_2 _ _) (AutoSeq1.list___iadd___list_list_0 l cvs k b dvs m ?_ ?_ ?_) ⟨hl, hb, ?_⟩)
  · simp [Builtin.List.listTooLong, sizeLine]; omega
  · have : sizeLine = 16777216 := sizeLine_eq
    omega
  · have : sizeLine = 16777216 := sizeLine_eq
    omega
  · exact h

theorem inop_sound (O : B.Ok) {op : Operator} {a b : V} {ac bc : Value} (ra : VR W a ac) (rb : VR W b bc) (h : inop B.K r op a b H = some (v, H')) : Sm B A W H (inplaceOp op ac bc) VR v H' := by
  unfold inop at h
  split at h
  · rename_i i ys hy
    split at h
    · rename_i xs hi
      split at h
      · rename_i hz
        cases h
        cases ra with
        | @ref _ l e =>
          intro E Q s S q
          obtain ⟨l', cvs', k', rfl, g', z'⟩ := listOf_sound O S rb hy
          obtain ⟨o, h1, cc⟩ := S.obj _ _ e
          rw [hi] at h1; cases h1
          obtain ⟨cvs, k, g, z⟩ := cc
          refine inop_list g g' (by rw [z.length, z'.length, Array.length_toList, Array.length_toList] at hz; exact hz) (q _ _ W (Le.refl W) (S.change_list (xs' := xs ++ ys) (cvs' := cvs ++ cvs') (n' := if (cvs ++ cvs').size == cvs.size then k else k + 1) e hi sameBut_update (Heap.get?_update_self _ g rfl) ?_ _) (.ref e))
          rw [Array.toList_append]; exact z.append z'
      · cases h
    · cases h
  · split at h
    · split at h
      · rename_i z hz
        cases h; cases ra; cases rb
        exact (intOp_sound hz).2
      · cases h
    · cases h
  · cases h

theorem unary_sound (O : B.Ok) {op : UnaryOp} (r : VR W v c) :
    (∀ {b : Bool}, truthy B.K H v = some b → Sm B A W H (unaryOp .Not c) VR (.bool (!b)) H) ∧ (∀ {i : Int}, v = .int i → Sm B A W H (unaryOp .USub c) VR (.int (-i)) H) := by
  constructor
  · intro b h E Q s S q
    exact not_of (truthy_sound O r h E _ s S fun b' s' W' l S' z => by cases z; exact q _ s' W' l S' (.bool _))
  · intro i e E Q s S q
    subst e
    cases r
    exact neg_int (q _ _ W (Le.refl W) (S.tok _) (.int _ _))
end
end Mini
namespace Mini
open PySem PySem.W PySem.W.X PySem.Calls PyProof.Rows Builtin

section
variable {B : Base} {A : Around} {W W' : OM} {H H' : Hp} {env : Env} {sc : Scope} {ρ φ : Loc} {s : Shared} {v u : V} {c d : Value} {n : Nat} {r : Rec}

theorem atI_of {xs : List V} {k : Int} (h : atI xs k = some v) : xs.length < 2 ^ 24 ∧ ((0 ≤ k ∧ k < 2 ^ 62 ∧ xs[k.toNat]? = some v) ∨ (k < 0 ∧ 0 ≤ k + xs.length ∧ xs[(k + xs.length).toNat]? = some v)) := by
  unfold atI at h
  split at h
  · rename_i hz
    refine ⟨hz, ?_⟩
    split at h
    · rename_i h0
      split at h
      · rename_i hb; exact .inl ⟨h0, hb, h⟩
      · cases h
    · rename_i h0
      split at h
      · rename_i hb; exact .inr ⟨by omega, hb, h⟩
      · cases h
  · cases h
theorem at_arr {W : OM} {xs : List V} {cs : Array Value} (z : VRs W xs cs.toList) {i : Nat} (h : xs[i]? = some v) : ∃ c, cs[i]? = some c ∧ VR W v c := by
  obtain ⟨c, e, r⟩ := z.at h
  exact ⟨c, by rw [← Array.getElem?_toList]; exact e, r⟩
theorem list_at {prog : Program} {w : World} {E : Value → Shared → Prop} {Q : Value → Shared → Prop} {W : OM} {l : Addr} {m : Nat} {cvs : Array Value} {xs : List V} {k : Int} {t : Tok} (g : s.heap.get? l = some (lstObj cvs m)) (z : VRs W xs cvs.toList) (h : atI xs k = some v)
    (q : ∀ c, VR W v c → Q c s) : wpAny (model prog w) A (PySem.getItem (.ref l) (.int k t)) Q E s := by
  have hl : s.heap.IsList l cvs := ⟨_, g, rfl, m, rfl⟩
  have n1 : xs.length = cvs.size := by rw [z.length, Array.length_toList]
  obtain ⟨hz, ⟨h0, h1, h2⟩ | ⟨h0, h1, h2⟩⟩ := atI_of h
  · obtain ⟨c, e, r⟩ := at_arr z h2
    exact wpAny_getItem_list hl h0 (by omega) e (q c r)
  · obtain ⟨c, e, r⟩ := at_arr z h2
    rw [n1] at e
    exact wpAny_getItem_list_neg hl h0 (by omega) (by omega) e (q c r)
theorem seqIdx {k : Int} {m : Nat} : (0 ≤ k → k.toNat < m → seqIndex? k m = some k.toNat) ∧ (k < 0 → 0 ≤ k + m → seqIndex? k m = some (k + m).toNat) := by
  constructor
  · intro h0 h1
    unfold seqIndex?
    simp only [show ¬ k < 0 by omega, if_false]
    rw [if_pos (by simp; omega)]
  · intro h0 h1
    unfold seqIndex?
    simp only [h0, if_true]
    rw [if_pos (by simp; omega)]
theorem tup_at {prog : Program} {w : World} {E : Value → Shared → Prop} {Q : Value → Shared → Prop} {W : OM} {a : Addr} {cvs : List Value} {xs : List V} {k : Int} {t : Tok} (g : IsTup s.heap a cvs.toArray) (z : VRs W xs cvs) (h : atI xs k = some v)
    (q : ∀ c, VR W v c → Q c s) : wpAny (model prog w) A (PySem.getItem (.ref a) (.int k t)) Q E s := by
  have n1 : xs.length = cvs.length := z.length
  obtain ⟨hz, ⟨h0, h1, h2⟩ | ⟨h0, h1, h2⟩⟩ := atI_of h
  · obtain ⟨c, e, r⟩ := z.at h2
    have hlt := (List.getElem?_eq_some_iff.mp h2).1
    exact PyProof.Rows.getItem_tuple (k := k) g (by omega) (by omega) (seqIdx.1 h0 (by simp; omega)) (by simpa using e) (q c r)
  · obtain ⟨c, e, r⟩ := z.at h2
    exact PyProof.Rows.getItem_tuple (k := k) g (by omega) (by omega) (seqIdx.2 h0 (by simp; omega)) (by simpa [← n1] using e) (q c r)

theorem cut_VRs {W : OM} {xs : List V} {cs : List Value} (z : VRs W xs cs) (lo hi : Option Int) : VRs W (cut xs lo hi) (cut cs lo hi) := by
  unfold cut
  rw [z.length]
  exact (z.drop _).take _
theorem cut_length {α : Type} (xs : List α) (lo hi : Option Int) : (cut xs lo hi).length ≤ xs.length := by
  unfold cut
  rw [List.length_take, List.length_drop]
  omega
theorem list_slice {prog : Program} {w : World} {E : Value → Shared → Prop} {Q : Value → Shared → Prop} {l sl : Addr} {m : Nat} {cvs : Array Value} {lv uv : Value} {lo hi : Option Int} (g : s.heap.get? l = some (lstObj cvs m)) (gs : s.heap.get? sl = some (slcObj lv uv)) (pl : IsPart lv lo) (pu : IsPart uv hi) (hz : cvs.size ≤ maxL)
    (q : Q (.ref s.heap.objs.size) { s with heap := s.heap.push { cls := .type "list", data := .seq (cut cvs.toList lo hi).toArray } }) : wpAny (model prog w) A (PySem.getItem (.ref l) (.ref sl)) Q E s := by
  refine wpAny_getItem_list_slice ⟨_, g, rfl, m, rfl⟩ ⟨_, gs, rfl, rfl⟩ pl pu .none (by decide) ?_ (sz hz)
  rw [slicePick_plain]
  unfold cut at q
  simpa using q
theorem list_reversed {prog : Program} {w : World} {E : Value → Shared → Prop} {Q : Value → Shared → Prop} {l sl : Addr} {m : Nat} {cvs : Array Value} {t : Tok} (g : s.heap.get? l = some (lstObj cvs m)) (gs : s.heap.get? sl = some { cls := .type "slice", data := .fields #[.none, .none, .int (-1) t] }) (hz : cvs.size ≤ maxL)
    (q : Q (.ref s.heap.objs.size) { s with heap := s.heap.push { cls := .type "list", data := .seq cvs.toList.reverse.toArray } }) : wpAny (model prog w) A (PySem.getItem (.ref l) (.ref sl)) Q E s := by
  refine wpAny_getItem_list_slice ⟨_, g, rfl, m, rfl⟩ ⟨_, gs, rfl, rfl⟩ .none .none (.int (-1) t) (by decide) ?_ (sz hz)
  rw [krv_pick]
  exact q
theorem bytes_slice {prog : Program} {w : World} {E : Value → Shared → Prop} {Q : Value → Shared → Prop} {sl : Addr} {b : Array UInt8} {tk : Tok} {lv uv : Value} {lo hi : Option Int} (gs : s.heap.get? sl = some (slcObj lv uv)) (pl : IsPart lv lo) (pu : IsPart uv hi) (hz : b.size ≤ maxL)
    (q : ∀ t' k, Q (.bytes (cut b.toList lo hi).toArray t') { s with toks := k }) : wpAny (model prog w) A (PySem.getItem (.bytes b tk) (.ref sl)) Q E s := by
  have e : KBy.picked b lo hi = (cut b.toList lo hi).toArray := by
    rw [KBc.picked_eq]; unfold cut; rw [Array.length_toList]
  refine getItem_meets (typeIs_bytes _ _ _) (by decide) FB.slot_bytes_getitem FB.entry_bytes_getitem (FB.args_bytes_getitem_2 _ _) (KBc.meets_slice2 b tk _ pl pu) ⟨⟨_, gs, rfl, rfl⟩, ?_, ?_⟩
  · exact Nat.le_trans (KBc.size_picked_le b lo hi) (sz hz)
  · intro t' k; rw [e]; exact q t' k

theorem adjust_clip (lo hi : Option Int) (n : Nat) : Builtin.Slice.sliceAdjust lo hi 1 (n : Int) = (((lo.elim 0 (clipAt n) : Nat) : Int), ((hi.elim n (clipAt n) : Nat) : Int)) := by
  have c : ∀ v : Int, (if v < 0 then max (v + (n : Int)) 0 else min v (n : Int)) = ((clipAt n v : Nat) : Int) := by
    intro v
    rw [clipAt_cast]
    split <;> omega
  unfold Builtin.Slice.sliceAdjust
  have h1 : ¬ ((1 : Int) < 0) := by omega
  simp only [h1, if_false]
  cases lo <;> cases hi <;> simp only [Option.elim, c] <;> rfl
theorem places_one (a b : Nat) : Builtin.Slice.slicePlaces (a : Int) (b : Int) 1 = b - a := by
  unfold Builtin.Slice.slicePlaces
  have h1 : (1 : Int) > 0 := by omega
  simp only [h1, if_true, Int.ediv_one]
  split <;> omega
theorem slicePart_any {prog : Program} {w : World} {E : Value → Shared → Prop} {x : Value} {k : Option Int} {Q : Option Int → Shared → Prop} (p : IsPart x k) (h : Q k s) : wpAny (model prog w) A (Builtin.Slice.slicePartIndex x) Q E s := by
  cases p with
  | none => exact slicePart_none h
  | int i t => exact slicePart_int h
theorem sliceApplied_any {prog : Program} {w : World} {E : Value → Shared → Prop} {sl : Addr} {lv uv : Value} {lo hi : Option Int} {n : Nat} {Q : Int × Int × Nat → Shared → Prop} (gs : s.heap.get? sl = some (slcObj lv uv)) (pl : IsPart lv lo) (pu : IsPart uv hi)
    (h : Q (((lo.elim 0 (clipAt n) : Nat) : Int), 1, hi.elim n (clipAt n) - lo.elim 0 (clipAt n)) s) : wpAny (model prog w) A (Builtin.Slice.sliceApplied (.ref sl) (pure (n : Int))) Q E s := by
  unfold Builtin.Slice.sliceApplied Builtin.Slice.sliceFields
  refine wpAny_bind (wpAny_bind (wpAny_field gs rfl (x := lv) rfl (wpAny_bind (wpAny_field gs rfl (x := uv) rfl (wpAny_bind (wpAny_field gs rfl (x := .none) rfl (wpAny_pure ?_)))))))
  refine wpAny_bind (slicePart_none ?_)
  show wpAny _ _ (if ((1 : Int) == 0) = true then _ else _) _ _ s
  rw [if_neg (by decide)]
  refine wpAny_bind (slicePart_any pl (wpAny_bind (slicePart_any pu (wpAny_bind (wpAny_pure ?_)))))
  show wpAny _ _ (match Builtin.Slice.sliceAdjust lo hi 1 (n : Int) with | (lo, hi) => pure (lo, (1 : Int), Builtin.Slice.slicePlaces lo hi 1)) _ _ s
  rw [adjust_clip]
  dsimp only
  rw [places_one]
  exact wpAny_pure h
theorem pick_any (xs : Array Value) (a n : Nat) : ((List.range n).filterMap fun (k : Nat) => xs[((a : Int) + (k : Int) * 1).toNat]?).toArray = ((xs.toList.drop a).take n).toArray := by
  have e : (fun (k : Nat) => xs[((a : Int) + (k : Int) * 1).toNat]?) = fun k => xs[a + k]? := by
    funext k
    have : ((a : Int) + (k : Int) * 1).toNat = a + k := by omega
    rw [this]
  rw [e]
  have := pick_run xs a n
  rw [List.filterMap_map] at this
  exact congrArg List.toArray this
theorem tuple_slice {prog : Program} {w : World} {E : Value → Shared → Prop} {Q : Value → Shared → Prop} {a sl : Addr} {cvs : List Value} {lv uv : Value} {lo hi : Option Int} {m : Nat} (g : s.heap.get? a = some (tupObj cvs.toArray m)) (gs : s.heap.get? sl = some (slcObj lv uv)) (pl : IsPart lv lo) (pu : IsPart uv hi) (hz : cvs.length ≤ maxL)
    (q : Q (.ref s.heap.objs.size) { s with heap := s.heap.push { cls := .type "tuple", data := .seq (cut cvs lo hi).toArray } }) (q' : cut cvs lo hi = cvs → Q (.ref a) s) : wpAny (model prog w) A (PySem.getItem (.ref a) (.ref sl)) Q E s := by
  have ht : IsTup s.heap a cvs.toArray := ⟨_, g, rfl, m, rfl⟩
  have hTs : s.TypeIs (.ref sl) "slice" := ⟨_, gs, rfl⟩
  have hsz : sizeOk (.seq (cut cvs lo hi).toArray) := by
    show (cut cvs lo hi).toArray.size ≤ sizeLine
    rw [List.size_toArray]
    exact Nat.le_trans (cut_length _ _ _) (sz hz)
  unfold PySem.getItem
  try with_reducible refine wpAny_holding ?_
  first | refine wpAny_bind (wpAny_pure ?_) | skip
  refine wpAny_bind (wpAny_sequenceKey ht.typeIs (by decide) ?_)
  refine wpAny_bind (wpAny_callSpecial?_slot (name := Str.ofString "__getitem__") ht.typeIs PyProof.Rows.slot_tuple_getitem
    (wpAny_call_entry PyProof.Rows.slot_tuple_getitem ht.typeIs PyProof.Rows.entry_tuple_getitem ?_ (PyProof.Rows.args_tuple_getitem _ _)))
  show wpAny _ _ (Builtin.Tuple.tupleItemsOf (.ref a) >>= _) _ _ s
  refine wpAny_bind (tupleItemsOf_ ht ?_)
  refine wpAny_bind (wpAny_typeOf hTs ?_)
  rw [if_pos (by decide)]
  refine wpAny_bind (sliceApplied_any gs pl pu ?_)
  dsimp only
  rw [pick_any]
  have e : (List.take (hi.elim cvs.toArray.size (clipAt cvs.toArray.size) - lo.elim 0 (clipAt cvs.toArray.size)) (List.drop (lo.elim 0 (clipAt cvs.toArray.size)) cvs.toArray.toList)) = cut cvs lo hi := by
    unfold cut; simp
  rw [e]
  refine wpAny_ite_split (fun h => ?_) (fun h => ?_)
  · rw [Bool.and_eq_true, Bool.and_eq_true, beq_iff_eq, beq_iff_eq, beq_iff_eq, List.size_toArray] at h
    have same : cut cvs lo hi = cvs := by
      have h1 : lo.elim 0 (clipAt cvs.length) = 0 := by have := h.1.1; omega
      unfold cut
      rw [h1] at h ⊢
      rw [List.drop_zero, h.2, List.take_length]
    refine wpAny_bind ?_
    unfold Builtin.Tuple.tupleIsExact
    refine wpAny_bind (wpAny_typeOf ht.typeIs (wpAny_pure ?_))
    rw [if_pos (by decide)]
    exact wpAny_bind (wpAny_rule (wpAny_pure ⟨_, rfl, wpAny_pure (q' same)⟩))
  · first
      | exact wpAny_bind (m := Builtin.Tuple.tupleExact _) (wpAny_newObj_type (wpAny_pure ⟨_, rfl, wpAny_pure q⟩) hsz)
      | exact wpAny_bind (m := Builtin.Tuple.tupleExact _) (wpAny_newObj_type (wpAny_bind (wpAny_pure (wpAny_pure ⟨_, rfl, wpAny_pure q⟩))) hsz)

theorem bytes_at {prog : Program} {w : World} {E : Value → Shared → Prop} {Q : Value → Shared → Prop} {b : Array UInt8} {tk : Tok} {k : Int} {t : Tok} (h : bytesAt b k = some v) (q : ∀ c t, VR W v c → Q c { s with toks := t }) : wpAny (model prog w) A (PySem.getItem (.bytes b tk) (.int k t)) Q E s := by
  unfold bytesAt at h
  split at h
  · rename_i hz
    obtain ⟨hz, h0⟩ := hz
    have hm : maxL = 1000000 := rfl
    obtain ⟨u, hu, rfl⟩ := Option.map_eq_some_iff.mp h
    have hlt := (Array.getElem?_eq_some_iff.mp hu).1
    have e : (b.toList.getD k.toNat 0) = u := by
      rw [List.getD_eq_getElem?_getD, Array.getElem?_toList, hu]; rfl
    have := getItem_bytes (prog := prog) (w := w) (A := A) (E := E) (s := s) (t := tk) (u := t) (l := b.toList) (i := k) (Q := Q) (by rw [Array.length_toList]; omega) h0 (by rw [Array.length_toList]; omega) (by rw [e]; exact q _ _ (.int _ _))
    simpa using this
  · cases h
theorem str_at {prog : Program} {w : World} {E : Value → Shared → Prop} {Q : Value → Shared → Prop} {x : Str} {tk : Tok} {k : Int} {t : Tok} (h : strAt x k = some v) (q : ∀ c t, VR W v c → Q c { s with toks := t }) : wpAny (model prog w) A (PySem.getItem (.str x tk) (.int k t)) Q E s := by
  unfold strAt at h
  dsimp only at h
  split at h
  · rename_i hz
    split at h
    · rename_i h0
      split at h
      · rename_i hb
        obtain ⟨u, hu, rfl⟩ := Option.map_eq_some_iff.mp h
        have hlt := (Array.getElem?_eq_some_iff.mp hu).1
        have hb' : k < 2 ^ 62 := hb
        refine PyProof.Rows.getItem_str (c := u) (by simp; omega) ?_ (q _ _ (.str _ _))
        rw [seqIdx.1 h0 (by simpa [Str.length] using hlt)]
        exact hu
      · cases h
    · rename_i h0
      split at h
      · rename_i hb
        obtain ⟨u, hu, rfl⟩ := Option.map_eq_some_iff.mp h
        refine PyProof.Rows.getItem_str (c := u) (by simp; omega) ?_ (q _ _ (.str _ _))
        rw [seqIdx.2 (by omega) (by simpa [Str.length] using hb)]
        exact hu
      · cases h
  · cases h

theorem getItem_sound (O : B.Ok) (hr : CallS B n r) (hA : Rm (n + 1) A) {o i : V} {oc ic : Value} (ro : VR W o oc) (ri : VR W i ic) (h : getItem B.K r o i H = some (v, H')) : Sm B A W H (PySem.getItem oc ic) VR v H' := by
  have lst : getItemL B.K r o i H = some (v, H') → Sm B A W H (PySem.getItem oc ic) VR v H' := by
    clear h
    intro h
    have dct : ∀ {kvs : List (Int × V)} {k : Int}, i = .int k → dictOfV B.K H o = some kvs → (match findK k kvs with | some v => some (v, H) | none => none) = some (v, H') → Sm B A W H (PySem.getItem oc ic) VR v H' := by
      clear h
      intro kvs k hi hd h
      subst hi
      split at h
      · rename_i w hf
        cases h
        cases ri
        intro E Q s S q
        obtain ⟨a, es, m, rfl, g, z⟩ := dictOf_sound O S ro hd
        have hz := z.find k
        rw [hf] at hz
        obtain ⟨e, he, rv⟩ := hz
        exact wpAny_getItem_of (knd := intKind B.prog B.w) (k := k) (by simp [intKind, Value.isInt]) (mapOf g z B.prog B.w) (by rw [findBy_list, he]; rfl) (q _ _ W (Le.refl W) (S.tok _) rv)
      · cases h
    unfold getItemL at h
    split at h
    · rename_i xs hl
      split at h
      · split at h
        · rename_i w hat
          cases h
          cases ri
          intro E Q s S q
          obtain ⟨l, cvs, k, rfl, g, z⟩ := listOf_sound O S ro hl
          exact list_at g z hat fun c r => q c _ W (Le.refl W) S r
        · cases h
      · split at h
        · rename_i hz
          cases ri with
          | slc e pl pu =>
            intro E Q s S q
            obtain ⟨l, cvs, k, rfl, g, z⟩ := listOf_sound O S ro hl
            refine list_slice g (S.fro _ _ e) pl pu (by rw [← Array.length_toList, ← z.length]; exact hz) (newL_sm S h ?_ q)
            exact cut_VRs z _ _
        · cases h
      · cases ri with
        | rvs e =>
          intro E Q s S q
          obtain ⟨l, cvs, k, rfl, g, z⟩ := listOf_sound O S ro hl
          have hz := newL_len h
          rw [List.length_reverse, z.length, Array.length_toList] at hz
          exact list_reversed g (S.fro _ _ e) hz (newL_sm S h (z.reverse) q)
      · cases h
    · split at h
      · rename_i m
        split at h
        · rename_i C fs hi
          split at h
          · rename_i f hm
            split at h
            · rename_i hq
              obtain ⟨hf, hfn, hif⟩ := methIn_of hm
              cases ro with
              | @ref _ a e =>
                intro E Q s S q
                obtain ⟨d, es, m', e1, e2, e3, e4, I⟩ := inst_at S e hi
                have X := S.kin O
                have := (hr (A := A) (kcs := []) h hA.less (meth_vr O S hif) (.cons (.ref e) (.cons ri .nil)) trivial).sm
                unfold PySem.getItem sequenceKey
                refine wpAny_holding (wpAny_bind (wpAny_bind (I.type.here ?_)))
                refine wpAny_bind ((anyM_none X hq).here ?_)
                rw [if_pos (show (!false) = true from rfl)]
                refine wpAny_pure (wpAny_bind (special_fn X I hf (beq_iff_eq.mp hif) (this E _ s S fun c s' W' l S' z => ?_)))
                exact wpAny_pure (q c s' W' l S' z)
            · cases h
          · cases h
        · split at h
          · rename_i k kvs _ hd
            exact dct rfl hd h
          · cases h
      · split at h
        · rename_i k kvs _ hd
          exact dct rfl hd h
        · cases h
      · cases h
  unfold getItem at h
  split at h
  · split at h
    · rename_i w hat
      cases h; cases ri
      cases ro with
      | tup e z =>
        intro E Q s S q
        exact tup_at ⟨_, S.fro _ _ e, rfl, _, rfl⟩ z hat fun c r => q c _ W (Le.refl W) S r
    · cases h
  · split at h
    · rename_i hz
      cases h
      cases ri with
      | slc es pl pu =>
        cases ro with
        | @tup vs cvs a m e z =>
          intro E Q s S q
          refine tuple_slice (S.fro _ _ e) (S.fro _ _ es) pl pu (by rw [← z.length]; exact hz) (q _ _ _ (le_put S.push_none) (S.push_fro _ rfl s.toks) ?_) fun hs => q _ _ W (Le.refl W) S ?_
          · exact .tup (put_self _ _ _) ((cut_VRs z _ _).le (le_put S.push_none))
          · refine .tup e ?_
            conv => arg 3; rw [← hs]
            exact cut_VRs z _ _
    · cases h
  · split at h
    · rename_i w hat
      cases h; cases ri; cases ro
      exact fun E Q s S q => bytes_at hat fun c t r => q c _ W (Le.refl W) (S.tok t) r
    · cases h
  · split at h
    · rename_i hz
      cases h
      cases ri with
      | slc es pl pu =>
        cases ro
        exact fun E Q s S q => bytes_slice (S.fro _ _ es) pl pu hz fun t' k => q _ _ W (Le.refl W) (S.tok k) (.bytes _ _)
    · cases h
  · split at h
    · rename_i w hat
      cases h; cases ri; cases ro
      exact fun E Q s S q => str_at hat fun c t r => q c _ W (Le.refl W) (S.tok t) r
    · cases h
  · exact lst h

/-! stores -/
theorem set_list {prog : Program} {w : World} {E : Value → Shared → Prop} {Q : Unit → Shared → Prop} {l : Addr} {m : Nat} {cvs : Array Value} {k : Int} {t : Tok} {x : Value} (g : s.heap.get? l = some (lstObj cvs m)) (h0 : 0 ≤ k) (hfit : k < 2 ^ 63) (hn : k.toNat < cvs.size)
    (q : Q () { s with heap := s.heap.update l (Obj.mapSeq (·.setIfInBounds k.toNat x)) }) : wpAny (model prog w) A (PySem.setItem (.ref l) (.int k t) x) Q E s := by
  have hl : s.heap.IsList l cvs := ⟨_, g, rfl, m, rfl⟩
  unfold PySem.setItem
  try with_reducible refine wpAny_holding ?_
  first | refine wpAny_bind (wpAny_pure ?_) | skip
  refine wpAny_bind (wpAny_sequenceKey hl.typeIs (by decide) ?_)
  refine wpAny_bind (wpAny_callSpecial?_slot (name := Str.ofString "__setitem__") hl.typeIs slot_list_setitem
    (wpAny_call_entry slot_list_setitem hl.typeIs entry_list_setitem ?_ (args_list_setitem _ _ _)))
  show wpAny _ _ (Builtin.List.listSubscript? (.int k t) >>= _) _ _ s
  refine wpAny_bind (wpAny_listSubscript_int (fitsIndex_of h0 hfit) ?_)
  clear hfit
  obtain ⟨j, rfl⟩ := Int.eq_ofNat_of_zero_le h0
  have hj : j < cvs.size := hn
  have hx' : cvs[j]? = some cvs[j] := Array.getElem?_eq_getElem hj
  show wpAny _ _ ((seqItemAt l j >>= fun r => pure (r.map (j, ·))) >>= _) _ _ s
  refine wpAny_bind (wpAny_bind (wpAny_seqItemAt g rfl (wpAny_pure ?_)))
  rw [hx']
  show wpAny _ _ (setSeqItemAt l j x >>= _) _ _ s
  refine wpAny_bind (wpAny_setSeqItemAt g rfl ?_)
  first
    | exact wpAny_bind (wpAny_pure (wpAny_pure ⟨.none, rfl, wpAny_pure q⟩))
    | exact wpAny_pure ⟨.none, rfl, wpAny_pure q⟩

theorem setK_keys (k : Int) (x : V) : ∀ kvs : List (Int × V), (setK k x kvs).map (·.1) = if (kvs.map (·.1)).contains k then kvs.map (·.1) else kvs.map (·.1) ++ [k]
  | [] => by simp [setK]
  | (y, w) :: r => by
    unfold setK
    by_cases h : y = k
    · subst h; simp
    · rw [if_neg h, List.map_cons, setK_keys k x r]
      have : (k == y) = false := by simpa using fun e => h e.symm
      simp only [List.map_cons, List.contains_cons, this, Bool.false_or]
      split <;> simp
theorem setK_nodup {k : Int} {x : V} {kvs : List (Int × V)} (h : (kvs.map (·.1)).Nodup) : ((setK k x kvs).map (·.1)).Nodup := by
  rw [setK_keys]
  split
  · exact h
  · rename_i hc
    rw [List.nodup_append]
    refine ⟨h, by simp, ?_⟩
    intro a ha b hb e
    subst e
    simp at hb
    subst hb
    exact hc (by simpa using ha)
theorem KR.pairs {W : OM} {prog : Program} {w : World} : ∀ {kvs : List (Int × V)} {es : List DictEntry}, KR W kvs es → ∃ cs : List (Int × Value), Pairs (intKind prog w) es cs ∧ cs.map (·.1) = kvs.map (·.1) ∧ VRs W (kvs.map (·.2)) (cs.map (·.2))
  | [], [], _ => ⟨[], .nil, rfl, .nil⟩
  | (k, v) :: r, e :: es, ⟨⟨t, a⟩, b, c, d⟩ => by
    obtain ⟨cs, h1, h2, h3⟩ := KR.pairs (prog := prog) (w := w) d
    exact ⟨(k, e.val) :: cs, .cons (by rw [a]; simp [intKind, Value.isInt]) rfl h1, by simp [h2], by simpa using VRs.cons c h3⟩
  | [], _ :: _, x => x.elim
  | _ :: _, [], x => x.elim
theorem VRs.len0 {W : OM} {vs : List V} (h : VRs W vs []) : vs = [] := by cases h; rfl
theorem KR.of_pairs {W : OM} {prog : Program} {w : World} : ∀ {es : List DictEntry} {cs : List (Int × Value)}, Pairs (intKind prog w) es cs → (∀ e ∈ es, ∃ k, (intKind prog w).is k e.key = true ∧ e.hash = (intKind prog w).hash k) → ∀ {kvs : List (Int × V)}, kvs.map (·.1) = cs.map (·.1) → VRs W (kvs.map (·.2)) (cs.map (·.2)) → KR W kvs es
  | _, _, .nil, _, kvs, h1, _ => by
    have : kvs = [] := by simpa using h1
    subst this; trivial
  | e :: es, (k, c) :: cs, .cons h1 h2 h3, hk, kvs, h4, h5 => by
    cases kvs with
    | nil => simp at h4
    | cons p r =>
      obtain ⟨k', v⟩ := p
      simp only [List.map_cons, List.cons.injEq] at h4
      obtain ⟨rfl, h4⟩ := h4
      simp only [List.map_cons] at h5
      cases h5 with
      | cons a b =>
        have key : ∃ t, e.key = .int k' t := by
          simp only [intKind] at h1
          cases q : e.key <;> rw [q] at h1 <;> simp [Value.isInt] at h1
          exact ⟨_, by rw [h1]⟩
        refine ⟨key, ?_, by rw [h2]; exact a, KR.of_pairs h3 (fun e he => hk e (.tail _ he)) h4 b⟩
        obtain ⟨k2, g1, g2⟩ := hk e (.head _)
        obtain ⟨t, hkey⟩ := key
        rw [hkey] at g1
        have : k' = k2 := by simpa [intKind, Value.isInt] using g1
        rw [g2, ← this]; rfl
theorem stored_setK {W : OM} {k : Int} {x : V} {c : Value} (r : VR W x c) : ∀ {kvs : List (Int × V)} {cs : List (Int × Value)}, kvs.map (·.1) = cs.map (·.1) → (cs.map (·.1)).Nodup → VRs W (kvs.map (·.2)) (cs.map (·.2)) →
    (setK k x kvs).map (·.1) = (stored cs k c).map (·.1) ∧ VRs W ((setK k x kvs).map (·.2)) ((stored cs k c).map (·.2))
  | kvs, cs, h1, nd, h2 => by
    induction kvs generalizing cs with
    | nil =>
      have : cs = [] := by simpa using h1.symm
      subst this
      exact ⟨by simp [setK, stored], by simpa [setK, stored] using VRs.cons r .nil⟩
    | cons p kvs ih =>
      cases cs with
      | nil => simp at h1
      | cons q cs =>
        obtain ⟨y, w⟩ := p
        obtain ⟨y', w'⟩ := q
        simp only [List.map_cons, List.cons.injEq] at h1
        obtain ⟨rfl, h1⟩ := h1
        simp only [List.map_cons, List.nodup_cons] at nd
        simp only [List.map_cons] at h2
        cases h2 with
        | cons a b =>
          by_cases hk : y = k
          · subst hk
            have hno : ∀ kv ∈ cs, kv.1 ≠ y := fun kv hkv e => nd.1 (e ▸ List.mem_map_of_mem hkv)
            have hmap : cs.map (fun kv => if kv.1 = y then (kv.1, c) else kv) = cs := by
              conv => rhs; rw [← List.map_id cs]
              exact List.map_congr_left fun kv hkv => by rw [if_neg (hno kv hkv)]; rfl
            have hs : stored ((y, w') :: cs) y c = (y, c) :: cs := by
              unfold stored
              rw [if_pos (by simp), List.map_cons, if_pos rfl, hmap]
            rw [hs]
            unfold setK
            rw [if_pos rfl]
            exact ⟨by simp [h1], by simpa using VRs.cons r b⟩
          · obtain ⟨g1, g2⟩ := ih _ h1 nd.2 b
            have hs : stored ((y, w') :: cs) k c = (y, w') :: stored cs k c := by
              unfold stored
              simp only [List.any_cons, hk, decide_false, Bool.false_or, List.map_cons, if_false]
              split <;> simp
            rw [hs]
            unfold setK
            rw [if_neg hk]
            exact ⟨by simp [g1], by simpa using VRs.cons a g2⟩

theorem setItem_sound (O : B.Ok) {o i x : V} {oc ic xc : Value} (ro : VR W o oc) (ri : VR W i ic) (rx : VR W x xc) (h : setItem o i x H = some H') : Sm B A W H (PySem.setItem oc ic xc) (fun _ (_ _ : Unit) => True) () H' := by
  unfold setItem at h
  split at h
  · rename_i m k
    cases ro with
    | @ref _ a e =>
      cases ri with
      | int _ t =>
        split at h
        · rename_i xs hi
          split at h
          · rename_i hz
            split at h
            · rename_i h0
              split at h
              · rename_i hlt
                cases h
                intro E Q s S q
                obtain ⟨o, h1, cc⟩ := S.obj _ _ e
                rw [hi] at h1; cases h1
                obtain ⟨cvs, n', g, z⟩ := cc
                have n1 : xs.length = cvs.size := by rw [z.length, Array.length_toList]
                refine set_list g h0 (by omega) (by omega) (q () _ W (Le.refl W) (S.change_list (xs' := xs.set k.toNat x) (cvs' := cvs.setIfInBounds k.toNat xc) (n' := if (cvs.setIfInBounds k.toNat xc).size == cvs.size then n' else n' + 1) e hi sameBut_update (Heap.get?_update_self _ g rfl) ?_ _) trivial)
                rw [Array.toList_setIfInBounds]
                exact z.set _ rx
              · cases h
            · cases h
          · cases h
        · rename_i kvs hi
          split at h
          · rename_i hz
            cases h
            intro E Q s S q
            obtain ⟨o, h1, cc⟩ := S.obj _ _ e
            rw [hi] at h1; cases h1
            obtain ⟨es, n', g, z, nd⟩ := cc
            obtain ⟨cs, p1, p2, p3⟩ := z.pairs (prog := B.prog) (w := B.w)
            have hk : ∀ e ∈ es, ∃ k, (intKind B.prog B.w).is k e.key = true ∧ e.hash = (intKind B.prog B.w).hash k := fun e he => by
              obtain ⟨k, t, h1, h2⟩ := z.nth e he
              exact ⟨k, by rw [h1]; simp [intKind, Value.isInt], h2⟩
            have hd : s.heap.DictOf (intKind B.prog B.w) a cs := ⟨_, es.toArray, n', g, ⟨rfl, rfl, rfl⟩, rfl, fun e he => hk e (by simpa using he), by simpa using p1, by rw [p2]; exact nd⟩
            have lz : cs.length ≤ sizeLine := by
              have : cs.length = kvs.length := by rw [← List.length_map (f := (·.1)), p2, List.length_map]
              exact sz (by have : maxL = 1000000 := rfl; omega)
            refine wpAny_setItem_pairs (k := k) (by simp [intKind, Value.isInt]) hd (fun h' hd' sb => ?_) lz
            obtain ⟨o', es', ep', g', ⟨c1, c2, c3⟩, c4, c5, c6, c7⟩ := hd'
            obtain ⟨q1, q2⟩ := stored_setK (k := k) rx p2.symm (by rw [p2]; exact nd) p3
            have ho : o' = dictOf es'.toList ep' := by
              obtain ⟨oc, od, oda, osl⟩ := o'
              dsimp only at c1 c2 c3 c4
              subst c1 c2 c3 c4
              simp [dictOf]
            subst ho
            refine q () _ W (Le.refl W) (S.change e _ (fun b hb _ => sb.2 b hb) ⟨_, _, g', KR.of_pairs c6 (fun e he => c5 e (by simpa using he)) q1 q2, setK_nodup nd⟩ (fun d hd => ?_) hi) trivial
            obtain ⟨o, eo⟩ := S.dct d _ hd
            exact ⟨o, (sb.2 d (fun q => by rw [q, e] at hd; cases hd)).trans eo⟩
          · cases h
        · cases h
  · cases h
end
end Mini
namespace Mini
open PySem PySem.W PySem.W.X PySem.Calls PyProof.Rows Builtin

/-- an iterator of the model, and the addresses that it alone may change -/
inductive ItR (W : OM) : It → Value → List Addr → Prop
  | lst {i k : Nat} {a l : Addr} {o : Obj} : W a = some (.prv o) → o.cls = .type "list_iterator" → o.data = .fields #[.ref l, .int k 0] → W l = some (.obj i) → ItR W (.lst i k) (.ref a) [a]
  | seqL {vs : List V} {k n : Nat} {cvs : Array Value} {a l : Addr} {o : Obj} : W a = some (.prv o) → o.cls = .type "list_iterator" → o.data = .fields #[.ref l, .int k 0] → W l = some (.fro (lstObj cvs n)) → VRs W vs (cvs.toList.drop k) → ItR W (.seq vs) (.ref a) [a]
  | seqT {vs : List V} {k n : Nat} {cvs : Array Value} {a l : Addr} {o : Obj} : W a = some (.prv o) → o.cls = .type "tuple_iterator" → o.data = .fields #[.ref l, .int k 0] → W l = some (.fro (tupObj cvs n)) → VRs W vs (cvs.toList.drop k) → ItR W (.seq vs) (.ref a) [a]
  | seqB {k : Nat} {b : Array UInt8} {t : Tok} {a : Addr} {o : Obj} : W a = some (.prv o) → o.cls = .type "bytes_iterator" → o.data = .fields #[.bytes b t, .int k 0] → ItR W (.seq ((b.toList.drop k).map fun u => .int u.toNat)) (.ref a) [a]
  | seqA {k : Nat} {x : Str} {t : Tok} {a : Addr} {o : Obj} : W a = some (.prv o) → o.cls = .type "str_ascii_iterator" → o.data = .fields #[.str x t, .int k 0] → ItR W (.seq ((x.cps.toList.drop k).map fun c => .str ⟨#[c]⟩)) (.ref a) [a]
  | seqW {k : Nat} {x : Str} {t : Tok} {a : Addr} {o : Obj} : W a = some (.prv o) → o.cls = .type "str_iterator" → o.data = .fields #[.str x t, .int k 0] → ItR W (.seq ((x.cps.toList.drop k).map fun c => .str ⟨#[c]⟩)) (.ref a) [a]
  | rng {x left step : Int} {a : Addr} : W a = some (.prv { cls := .type "range_iterator", data := .fields #[rawInt x, rawInt left, rawInt step] }) → ItR W (.rng x left step) (.ref a) [a]

def drop (W : OM) (X : List Addr) : OM := fun b => if b ∈ X then none else W b
section
variable {B : Base} {A : Around} {W W' : OM} {H H' : Hp} {env : Env} {sc : Scope} {ρ φ : Loc} {s : Shared} {v u : V} {c d : Value} {n : Nat} {r : Rec}

theorem ItR.prv {it : It} {X : List Addr} (h : ItR W it c X) : ∀ a ∈ X, ∃ o, W a = some (.prv o) := by
  intro a ha
  cases h <;> (simp at ha; subst ha; exact ⟨_, by assumption⟩)
theorem ItR.lex {it : It} {X : List Addr} {P : Addr → Prop} (h : ItR W it c X) (l : LeX P W W') (hP : ∀ a ∈ X, ¬ P a) : ItR W' it c X := by
  have keep : ∀ {a : Addr} {x : Own}, a ∈ X → W a = some x → W' a = some x := fun ha e => (l _ _ e).resolve_left fun q => hP _ ha q.2
  cases h with
  | lst e a b f => exact .lst (keep (by simp) e) a b (l.live.obj f)
  | seqL e a b f z => exact .seqL (keep (by simp) e) a b (l.live.fro f) (z.live l.live)
  | seqT e a b f z => exact .seqT (keep (by simp) e) a b (l.live.fro f) (z.live l.live)
  | seqB e a b => exact .seqB (keep (by simp) e) a b
  | seqA e a b => exact .seqA (keep (by simp) e) a b
  | seqW e a b => exact .seqW (keep (by simp) e) a b
  | rng e => exact .rng (keep (by simp) e)
theorem LeX.trans {P : Addr → Prop} {W W' W'' : OM} (h : LeX P W W') (h' : LeX P W' W'') : LeX P W W'' := fun a x e => by
  rcases h a x e with q | q
  · exact .inl q
  · exact h' a x q
theorem LeX.mono {P P' : Addr → Prop} (h : LeX P W W') (k : ∀ a, P a → P' a) : LeX P' W W' := fun a x e => (h a x e).imp (fun q => ⟨q.1, k a q.2⟩) id
theorem lex_put {a : Addr} {o o' : Obj} (e : W a = some (.prv o)) : LeX (· = a) W (put W a (.prv o')) := fun b x q => by
  by_cases h : b = a
  · subst h; rw [e] at q; cases q; exact .inl ⟨⟨_, rfl⟩, rfl⟩
  · exact .inr (by rw [put_ne W _ h]; exact q)
theorem lex_drop {X : List Addr} (h : ∀ a ∈ X, ∃ o, W a = some (.prv o)) : LeX (· ∈ X) W (drop W X) := fun b x q => by
  by_cases hb : b ∈ X
  · obtain ⟨o, e⟩ := h b hb
    rw [e] at q; cases q; exact .inl ⟨⟨_, rfl⟩, hb⟩
  · exact .inr (by unfold drop; rw [if_neg hb]; exact q)
/-- what was private is left to itself -/
theorem Sim.let (S : Sim B W H s) {X : List Addr} (hX : ∀ a ∈ X, ∃ o, W a = some (.prv o)) {h' : Heap} (t : Nat) (hk : ∀ b o, b ∉ X → s.heap.get? b = some o → h'.get? b = some o) : Sim B (drop W X) H { s with heap := h', toks := t } := by
  have ex : ∀ b x, W b = some x → ∃ o, s.heap.get? b = some o := fun b x e => by
    cases x with
    | fro o => exact ⟨o, S.fro b o e⟩
    | prv o => exact ⟨o, S.prv b o e⟩
    | obj i => obtain ⟨o, _, c⟩ := S.obj b i e; exact c.there
    | dct i => exact S.dct b i e
    | tab ps => obtain ⟨_, more, q, _⟩ := S.tab b ps e; exact ⟨_, q⟩
  refine S.grow (lex_drop hX).live (fun _ _ e => e) (Nat.le_refl _) (fun a x ⟨o, q⟩ e => ?_) (fun b x e => ?_) (fun b x e => ?_) (fun b o e e' => ?_) rfl S.gens
  · unfold drop
    rw [if_neg]
    · exact e
    · intro ha
      obtain ⟨o', e'⟩ := hX a ha
      rw [S.prv_new e'] at q; cases q
  · by_cases hb : b ∈ X
    · obtain ⟨o, e'⟩ := hX b hb
      rw [e'] at e; cases e; exact .inl ⟨_, rfl⟩
    · obtain ⟨o, q⟩ := ex b x e
      exact .inr (by rw [q]; exact hk b o hb q)
  · unfold drop at e
    split at e
    · cases e
    · exact .inl e
  · have hb : b ∉ X := fun hb => by unfold drop at e'; rw [if_pos hb] at e'; cases e'
    obtain ⟨o, q⟩ := ex b _ e
    rw [q]; exact hk b o hb q

/-- one turn of an iterator -/
theorem next_sound (O : B.Ok) (hA : A.handled = none) {it : It} {X : List Addr} (h : ItR W it c X) {y : Option (V × It)} (hn : next B.K H it = some y) :
    ∀ (E : Value → Shared → Prop) (Q : Option Value → Shared → Prop) (s : Shared), Sim B W H s →
      (match y with
        | none => ∀ s', Sim B (drop W X) H s' → Q none s'
        | some (v, it') => ∀ c' s' W', LeX (· ∈ X) W W' → Sim B W' H s' → VR W' v c' → ItR W' it' c X → Q (some c') s') → wpAny B.m A (pyNext c) Q E s := by
  intro E Q s S q
  have fin : ∀ {a : Addr} {o : Obj}, y = none → X = [a] → W a = some (.prv o) → ∀ {h' : Heap} (t : Nat), Heap.ExtBut a s.heap h' → Q none { s with heap := h', toks := t } := by
    intro a o hy hX ha h' t hk
    subst hy
    exact q _ (S.let h.prv t fun b o hb e => hk b o (fun z => hb (by rw [hX, z]; simp)) e)
  cases h with
  | @lst i k a l o ha hc hd hl =>
    obtain ⟨ob, h1, cc⟩ := S.obj _ _ hl
    simp only [next, h1] at hn
    cases ob with
    | list xs =>
      obtain ⟨cvs, n', g, z⟩ := cc
      have ho := S.prv a o ha
      have hit : s.heap.IsListIter a l k := ⟨o, ho, hc, hd⟩
      have hli : s.heap.IsList l cvs := ⟨_, g, rfl, n', rfl⟩
      dsimp only at hn
      split at hn
      · rename_i w hw
        cases hn
        obtain ⟨cw, e1, e2⟩ := at_arr z hw
        refine wpAny_pyNext_list_item hit hli e1 fun h' hit' sb => ?_
        obtain ⟨o', g1, g2, g3⟩ := hit'
        exact q cw _ _ ((lex_put ha).mono (by simp)) (S.repin ha s.toks sb g1 (S.prv_new ha)) (e2.live (live_put ha)) (.lst (put_self _ _ _) g2 g3 ((live_put ha).obj hl))
      · rename_i hw
        cases hn
        refine wpAny_pyNext_list_end hA hit hli ?_ fun h' sb => fin rfl rfl ha _ sb
        have := z.length
        rw [Array.getElem?_eq_none]
        rw [List.getElem?_eq_none_iff] at hw
        rw [← Array.length_toList, ← this]; exact hw
    | inst _ _ => cases hn
    | dict _ => cases hn
  | @seqL vs k n' cvs a l o ha hc hd hl z =>
    have hit : s.heap.IsListIter a l k := ⟨o, S.prv a o ha, hc, hd⟩
    have hli : s.heap.IsList l cvs := ⟨_, S.fro _ _ hl, rfl, n', rfl⟩
    cases vs with
    | nil =>
      simp only [next] at hn; cases hn
      refine wpAny_pyNext_list_end hA hit hli ?_ fun h' sb => fin rfl rfl ha _ sb
      have := z.length
      rw [List.length_drop, Array.length_toList] at this
      exact Array.getElem?_eq_none (by simp at this; omega)
    | cons w vs =>
      simp only [next] at hn; cases hn
      cases hz : cvs.toList.drop k with
      | nil => rw [hz] at z; cases z
      | cons cw rest =>
        rw [hz] at z
        cases z with
        | cons e1 e2 =>
          have hk : cvs[k]? = some cw := by
            rw [← Array.getElem?_toList, ← Nat.add_zero k, ← List.getElem?_drop, hz]; rfl
          have hr : cvs.toList.drop (k + 1) = rest := by
            rw [← List.drop_drop, hz]; rfl
          refine wpAny_pyNext_list_item hit hli hk fun h' hit' sb => ?_
          obtain ⟨o', g1, g2, g3⟩ := hit'
          exact q cw _ _ ((lex_put ha).mono (by simp)) (S.repin ha s.toks sb g1 (S.prv_new ha)) (e1.live (live_put ha)) (.seqL (put_self _ _ _) g2 g3 ((live_put ha).fro hl) (by rw [hr]; exact e2.live (live_put ha)))
  | @seqT vs k n' cvs a l o ha hc hd hl z =>
    have hit : s.heap.IsTupleIter a l k := ⟨o, S.prv a o ha, hc, hd⟩
    have hli : s.heap.IsTuple l cvs := ⟨_, S.fro _ _ hl, rfl, n', rfl⟩
    cases vs with
    | nil =>
      simp only [next] at hn; cases hn
      refine wpAny_pyNext_tuple_end hA hit hli ?_ fun h' sb => fin rfl rfl ha _ sb
      have := z.length
      rw [List.length_drop, Array.length_toList] at this
      exact Array.getElem?_eq_none (by simp at this; omega)
    | cons w vs =>
      simp only [next] at hn; cases hn
      cases hz : cvs.toList.drop k with
      | nil => rw [hz] at z; cases z
      | cons cw rest =>
        rw [hz] at z
        cases z with
        | cons e1 e2 =>
          have hk : cvs[k]? = some cw := by
            rw [← Array.getElem?_toList, ← Nat.add_zero k, ← List.getElem?_drop, hz]; rfl
          have hr : cvs.toList.drop (k + 1) = rest := by
            rw [← List.drop_drop, hz]; rfl
          refine wpAny_pyNext_tuple_item hit hli hk fun h' hit' sb => ?_
          obtain ⟨o', g1, g2, g3⟩ := hit'
          exact q cw _ _ ((lex_put ha).mono (by simp)) (S.repin ha s.toks sb g1 (S.prv_new ha)) (e1.live (live_put ha)) (.seqT (put_self _ _ _) g2 g3 ((live_put ha).fro hl) (by rw [hr]; exact e2.live (live_put ha)))
  | @seqB k b t a o ha hc hd =>
    have hit : KBw.IsBytesIter s.heap a b t k := ⟨o, S.prv a o ha, hc, hd⟩
    cases hz : b.toList.drop k with
    | nil =>
      rw [hz] at hn
      simp only [List.map_nil, next] at hn; cases hn
      refine KBw.next_end hA hit ?_ fun h' sb => fin rfl rfl ha _ sb
      rw [List.drop_eq_nil_iff, Array.length_toList] at hz
      exact Array.getElem?_eq_none hz
    | cons cw rest =>
      rw [hz] at hn
      simp only [List.map_cons, next] at hn; cases hn
      have hk : b[k]? = some cw := by
        rw [← Array.getElem?_toList, ← Nat.add_zero k, ← List.getElem?_drop, hz]; rfl
      have hr : b.toList.drop (k + 1) = rest := by
        rw [← List.drop_drop, hz]; rfl
      refine KBw.next_item hit hk fun h' hit' sb => ?_
      obtain ⟨o', g1, g2, g3⟩ := hit'
      exact q _ _ _ ((lex_put ha).mono (by simp)) (S.repin ha _ sb g1 (S.prv_new ha)) (.int _ _) (by rw [← hr]; exact .seqB (put_self _ _ _) g2 g3)
  | @seqA k x t a o ha hc hd =>
    have hit : s.heap.IsStrIter a "str_ascii_iterator" x t k := ⟨o, S.prv a o ha, hc, hd⟩
    cases hz : x.cps.toList.drop k with
    | nil =>
      rw [hz] at hn
      simp only [List.map_nil, next] at hn; cases hn
      refine wpAny_pyNext_ascii_end hA hit ?_ fun h' sb => fin rfl rfl ha _ sb
      rw [List.drop_eq_nil_iff, Array.length_toList] at hz
      exact Array.getElem?_eq_none hz
    | cons cw rest =>
      rw [hz] at hn
      simp only [List.map_cons, next] at hn; cases hn
      have hk : x.cps[k]? = some cw := by
        rw [← Array.getElem?_toList, ← Nat.add_zero k, ← List.getElem?_drop, hz]; rfl
      have hr : x.cps.toList.drop (k + 1) = rest := by
        rw [← List.drop_drop, hz]; rfl
      refine wpAny_pyNext_ascii_item hit hk fun h' hit' sb => ?_
      obtain ⟨o', g1, g2, g3⟩ := hit'
      exact q _ _ _ ((lex_put ha).mono (by simp)) (S.repin ha _ sb g1 (S.prv_new ha)) (.str _ _) (by rw [← hr]; exact .seqA (put_self _ _ _) g2 g3)
  | @seqW k x t a o ha hc hd =>
    have hit : s.heap.IsStrIter a "str_iterator" x t k := ⟨o, S.prv a o ha, hc, hd⟩
    cases hz : x.cps.toList.drop k with
    | nil =>
      rw [hz] at hn
      simp only [List.map_nil, next] at hn; cases hn
      refine wpAny_pyNext_wide_end hA hit ?_ fun h' sb => fin rfl rfl ha _ sb
      rw [List.drop_eq_nil_iff, Array.length_toList] at hz
      exact Array.getElem?_eq_none hz
    | cons cw rest =>
      rw [hz] at hn
      simp only [List.map_cons, next] at hn; cases hn
      have hk : x.cps[k]? = some cw := by
        rw [← Array.getElem?_toList, ← Nat.add_zero k, ← List.getElem?_drop, hz]; rfl
      have hr : x.cps.toList.drop (k + 1) = rest := by
        rw [← List.drop_drop, hz]; rfl
      refine wpAny_pyNext_wide_item hit hk fun h' hit' sb => ?_
      obtain ⟨o', g1, g2, g3⟩ := hit'
      exact q _ _ _ ((lex_put ha).mono (by simp)) (S.repin ha _ sb g1 (S.prv_new ha)) (.str _ _) (by rw [← hr]; exact .seqW (put_self _ _ _) g2 g3)
  | @rng x left step a ha =>
    have hit : IsRangeIter s.heap a x left step := S.prv a _ ha
    simp only [next] at hn
    split at hn
    · rename_i h0
      cases hn
      refine wpAny_pyNext_range_item hit h0 fun h' hit' sb => ?_
      exact q _ _ _ ((lex_put ha).mono (by simp)) (S.repin ha _ sb hit' (S.prv_new ha)) (.int _ _) (.rng (put_self _ _ _))
    · rename_i h0
      cases hn
      exact wpAny_pyNext_range_end hA hit (by omega) fun h' sb => fin rfl rfl ha _ sb

/-- an iterator is made -/
theorem iter_sound (O : B.Ok) {it : It} (rv : VR W v c) (h : iterOf B.K H v = some it) :
    ∀ (E : Value → Shared → Prop) (Q : Value → Shared → Prop) (s : Shared), Sim B W H s →
      (∀ c' s' W' X, Le W W' → Sim B W' H s' → ItR W' it c' X → (∀ a ∈ X, W a = none) → Q c' s') → wpAny B.m A (pyIter c) Q E s := by
  intro E Q s S q
  have new : ∀ a ∈ [s.heap.objs.size], W a = none := by intro a ha; simp at ha; subst ha; exact S.push_none
  cases rv with
  | @ref i l e =>
    obtain ⟨ob, h1, cc⟩ := S.obj _ _ e
    simp only [iterOf, h1] at h
    cases ob with
    | list xs =>
      cases h
      obtain ⟨cvs, n', g, z⟩ := cc
      refine wpAny_pyIter_list (l := l) (items := cvs) ⟨_, g, rfl, n', rfl⟩ (q _ _ _ _ (le_put S.push_none) (S.push_prv _ rfl s.toks) (.lst (put_self _ _ _) rfl rfl ((le_put S.push_none) _ _ e)) new)
    | inst _ _ => cases h
    | dict _ => cases h
  | @stat l o e =>
    simp only [iterOf] at h
    split at h
    · rename_i xs hl
      cases h
      obtain ⟨a', cvs, n', e', g, z⟩ := listOf_sound O S (.stat e) hl
      cases e'
      have hfro : o = lstObj cvs n' := by
        have := S.fro _ _ e; rw [g] at this; cases this; rfl
      subst hfro
      refine wpAny_pyIter_list (l := l) (items := cvs) ⟨_, g, rfl, n', rfl⟩ (q _ _ _ _ (le_put S.push_none) (S.push_prv _ rfl s.toks) (.seqL (put_self _ _ _) rfl rfl ((le_put S.push_none) _ _ e) (by simpa using z.le (le_put S.push_none))) new)
    · cases h
  | @tup vs cvs l n' e z =>
    simp only [iterOf] at h; cases h
    refine wpAny_pyIter_tuple (t := l) (items := cvs.toArray) ⟨_, S.fro _ _ e, rfl, n', rfl⟩ (q _ _ _ _ (le_put S.push_none) (S.push_prv _ rfl s.toks) (.seqT (put_self _ _ _) rfl rfl ((le_put S.push_none) _ _ e) (by simpa using z.le (le_put S.push_none))) new)
  | rng e =>
    simp only [iterOf] at h
    split at h
    · rename_i hs
      cases h
      exact wpAny_pyIter_range (S.fro _ _ e) hs (q _ _ _ _ (le_put S.push_none) (S.push_prv _ rfl s.toks) (.rng (put_self _ _ _)) new)
    · cases h
  | bytes b t =>
    simp only [iterOf] at h; cases h
    refine KBw.pyIter_bytes (q _ _ _ _ (le_put S.push_none) (S.push_prv _ rfl s.toks) ?_ new)
    have := ItR.seqB (W := put W s.heap.objs.size (.prv { cls := .type "bytes_iterator", data := .fields #[.bytes b t, .int 0 0] })) (k := 0) (put_self _ _ _) rfl rfl
    simpa [bytesL] using this
  | str x t =>
    simp only [iterOf] at h; cases h
    cases ha : x.cps.all (· < 128) with
    | true =>
      refine wpAny_pyIter_ascii ha (q _ _ _ _ (le_put S.push_none) (S.push_prv _ rfl s.toks) ?_ new)
      have := ItR.seqA (W := put W s.heap.objs.size (.prv { cls := .type "str_ascii_iterator", data := .fields #[.str x t, .int 0 0] })) (k := 0) (put_self _ _ _) rfl rfl
      simpa using this
    | false =>
      refine wpAny_pyIter_wide ha (q _ _ _ _ (le_put S.push_none) (S.push_prv _ rfl s.toks) ?_ new)
      have := ItR.seqW (W := put W s.heap.objs.size (.prv { cls := .type "str_iterator", data := .fields #[.str x t, .int 0 0] })) (k := 0) (put_self _ _ _) rfl rfl
      simpa using this
  | _ => simp only [iterOf] at h; cases h
end
end Mini
namespace Mini
open PySem PySem.W PySem.W.X PySem.Calls PyProof.Rows Builtin

/-- a tree that may set the names of its frame -/
def Sx (B : Base) (A : Around) (W : OM) (H : Hp) (env : Env) (sc : Scope) (φ : Loc) {α β : Type} (t : Sem α) (R : OM → β → α → Prop) (b : β) (ρ' : Loc) (H' : Hp) : Prop :=
  ∀ (E : Value → Shared → Prop) (Q : α → Shared → Prop) (s : Shared), Sim B W H s → (∀ c s' W', LeX (mine env sc) W W' → Sim B W' H' s' → FrameOk W' env sc ρ' φ → R W' b c → Q c s') → wpAny B.m A t Q E s
/-- a run told with its end -/
def FlR (W : OM) : Fl → Flow → Prop
  | .next, f => f = .next
  | .brk, f => f = .brk
  | .cont, f => f = .cont
  | .ret v, f => ∃ c, f = .ret c ∧ VR W v c
def TT {β α : Type} (_ : OM) (_ : β) (_ : α) : Prop := True

structure Snd (B : Base) (n : Nat) (r : Rec) : Prop where
  ev : ∀ {sc : Scope} {ρ φ : Loc} {e : Expr} {H : Hp} {v : V} {H' : Hp} {A : Around} {W : OM} {env : Env}, r.ev sc ρ φ e H = some (v, H') → Rm n A → FrameOk W env sc ρ φ → Sm B A W H (eval e env) VR v H'
  tr : ∀ {sc : Scope} {ρ φ : Loc} {e : Expr} {H : Hp} {b : Bool} {H' : Hp} {A : Around} {W : OM} {env : Env}, r.tr sc ρ φ e H = some (b, H') → Rm n A → FrameOk W env sc ρ φ → Sm B A W H (isTrue e env (eval e env)) REq b H'
  ex : ∀ {sc : Scope} {ρ : Loc} {body : List Stmt} {H : Hp} {f : Fl} {ρ' : Loc} {H' : Hp} {A : Around} {W : OM} {env : Env}, r.ex sc ρ body H = some (f, ρ', H') → Rm n A → FrameOk W env sc ρ [] → Sx B A W H env sc [] (execs body env) FlR f ρ' H'
  call : CallS B n r

section
variable {B : Base} {A : Around} {W W' : OM} {H H' H'' : Hp} {env : Env} {sc : Scope} {ρ ρ' ρ'' φ : Loc} {s : Shared} {v u : V} {c d : Value} {n : Nat} {r : Rec} {α β γ δ : Type}

theorem Sm.sx {t : Sem α} {R : OM → β → α → Prop} {b : β} (F : FrameOk W env sc ρ φ) (h : Sm B A W H t R b H') : Sx B A W H env sc φ t R b ρ H' := fun E Q s S q =>
  h E Q s S fun c s' W' l S' r => q c s' W' l.x S' (F.le l) r
theorem Sx.pure {R : OM → β → α → Prop} {b : β} {c : α} (F : FrameOk W env sc ρ φ) (h : R W b c) : Sx B A W H env sc φ (pure c) R b ρ H := fun E Q s S q => wpAny_pure (q c s W (Le.refl W).x S F h)
theorem Sx.bind {t : Sem α} {f : α → Sem γ} {R : OM → β → α → Prop} {R' : OM → δ → γ → Prop} {b : β} {d : δ} (h : Sx B A W H env sc φ t R b ρ' H')
    (k : ∀ W' c, LeX (mine env sc) W W' → FrameOk W' env sc ρ' φ → R W' b c → Sx B A W' H' env sc φ (f c) R' d ρ'' H'') : Sx B A W H env sc φ (t >>= f) R' d ρ'' H'' := fun E Q s S q =>
  wpAny_bind (h E _ s S fun c s' W' l S' F r => k W' c l F r E Q s' S' fun c' s'' W'' l' S'' F' r' => q c' s'' W'' (l.trans l') S'' F' r')
theorem Sm.bindx {t : Sem α} {f : α → Sem γ} {R : OM → β → α → Prop} {R' : OM → δ → γ → Prop} {b : β} {d : δ} (h : Sm B A W H t R b H')
    (k : ∀ W' c, Le W W' → R W' b c → Sx B A W' H' env sc φ (f c) R' d ρ'' H'') : Sx B A W H env sc φ (t >>= f) R' d ρ'' H'' := fun E Q s S q =>
  wpAny_bind (h E _ s S fun c s' W' l S' r => k W' c l r E Q s' S' fun c' s'' W'' l' S'' F' r' => q c' s'' W'' (l.x.trans l') S'' F' r')
theorem Sx.mono {t : Sem α} {R : OM → β → α → Prop} {R' : OM → γ → α → Prop} {b : β} {d : γ} (h : Sx B A W H env sc φ t R b ρ' H') (k : ∀ W' c, R W' b c → R' W' d c) : Sx B A W H env sc φ t R' d ρ' H' :=
  fun E Q s S q => h E Q s S fun c s' W' l S' F r => q c s' W' l S' F (k W' c r)
theorem Sx.at {pos : Pos} {t : Sem α} {R : OM → β → α → Prop} {b : β} (h : Sx B A W H env sc φ t R b ρ' H') : Sx B A W H env sc φ (standAt pos >>= fun _ => t) R b ρ' H' := fun E Q s S q => wpAny_bind (wpAny_standAt (h E Q s S q))
theorem Sx.held {vs : List Value} {t : Sem α} {R : OM → β → α → Prop} {b : β} (h : Sx B A W H env sc φ t R b ρ' H') : Sx B A W H env sc φ (holding vs t) R b ρ' H' := fun E Q s S q => wpAny_holding (h E Q s S q)

/-- addresses that the frame does not reach -/
def Off (env : Env) (sc : Scope) (φ : Loc) (P : Addr → Prop) : Prop := (∀ a, P a → ¬ mine env sc a) ∧ ∀ x v a, sc.names.lookup x = some .free → φ.lookup x = some v → env.cells.lookup x = some a → ¬ P a
theorem FrameOk.off {X : List Addr} (F : FrameOk W env sc ρ φ) (hX : ∀ a ∈ X, W a = none) : Off env sc φ (· ∈ X) := by
  refine ⟨fun a ha hm => ?_, fun x v a hx hv ha hm => ?_⟩
  · rcases hm with rfl | ⟨x, hx, hc⟩
    · obtain ⟨o, es, n, e, _⟩ := F.loc
      rw [hX _ ha] at e; cases e
    · obtain ⟨c, o, cv, e1, e2, _⟩ := F.cel x hx
      rw [hc] at e1; cases e1
      rw [hX _ ha] at e2; cases e2
  · obtain ⟨c, o, u, e1, e2, _⟩ := F.fre x v hx hv
    rw [ha] at e1; cases e1
    rw [hX _ hm] at e2; cases e2
/-- what is set apart from the frame may change -/
theorem FrameOk.lex {P : Addr → Prop} (F : FrameOk W env sc ρ φ) (l : LeX P W W') (hP : Off env sc φ P) : FrameOk W' env sc ρ φ := by
  have keep : ∀ {a : Addr} {x : Own}, ¬ P a → W a = some x → W' a = some x := fun hp e => (l _ _ e).resolve_left fun q => hp q.2
  refine ⟨F.kind, F.ekind, F.globals, F.builtins, F.names, F.back, F.code.live l.live, ?_, fun x hx => ?_, F.apart, fun x v hx hv => ?_⟩
  · obtain ⟨o, es, n, a, b, c, d⟩ := F.loc
    exact ⟨o, es, n, keep (fun hp => hP.1 _ hp (.inl rfl)) a, b, c, fun x v h1 h2 => let ⟨u, p, q⟩ := d x v h1 h2; ⟨u, p, q.live l.live⟩⟩
  · obtain ⟨c, o, cv, a, b, d, e, f⟩ := F.cel x hx
    exact ⟨c, o, cv, a, keep (fun hp => hP.1 _ hp (.inr ⟨x, hx, a⟩)) b, d, e, fun v h => let ⟨u, p, q⟩ := f v h; ⟨u, p, q.live l.live⟩⟩
  · obtain ⟨c, o, u, a, b, d, e, f⟩ := F.fre x v hx hv
    exact ⟨c, o, u, a, keep (hP.2 x v c hx hv a) b, d, e.live l.live, f⟩

theorem upd_lookup (x y : Str) (v : V) : ∀ ρ : Loc, (upd x v ρ).lookup y = if y = x then some v else ρ.lookup y
  | [] => by
    unfold upd
    rw [List.lookup_cons]
    by_cases h : y = x
    · rw [if_pos h, h, beq_self_eq_true]
    · have : (y == x) = false := by simpa using h
      rw [if_neg h, this]
  | (z, w) :: r => by
    unfold upd
    cases hz : x == z with
    | true =>
      have e : x = z := eq_of_beq hz
      subst e
      dsimp only
      rw [List.lookup_cons, List.lookup_cons]
      by_cases h : y = x
      · rw [if_pos h, h, beq_self_eq_true]
      · have : (y == x) = false := by simpa using h
        rw [if_neg h, this]
    | false =>
      dsimp only
      rw [List.lookup_cons, List.lookup_cons, upd_lookup x y v r]
      by_cases h : y = x
      · subst h; rw [hz, if_pos rfl]
      · rw [if_neg h, if_neg h]

theorem notScope (F : FrameOk W env sc ρ φ) : (env.scope.kind == .class || (env.scope.kind == .module && env.locals != env.globals)) = false := by
  rw [F.ekind]; rfl

/-- a name of the frame is set -/
theorem store_sound (O : B.Ok) (F : FrameOk W env sc ρ φ) {x : Str} (h : stores sc x = true) (rv : VR W v c) : Sx B A W H env sc φ (storeName env x c) (TT (β := Unit)) () (upd x v ρ) H := by
  intro E Q s S q
  unfold stores at h
  split at h
  · rename_i hx
    obtain ⟨o, es, m, ha, hd, hk, hv⟩ := F.loc
    refine wpAny_storeName_local (F.names x _ hx) (ns_of S ha hd hk) (fun h' hn sb => ?_) (notScope F)
    obtain ⟨o', es', ep', g1, g2, g3, g4⟩ := hn
    have L : Live W (put W env.locals (.prv o')) := live_put ha
    refine q () _ _ ((lex_put ha).mono fun a e => .inl e) (S.repin ha _ sb g1 (S.prv_new ha)) ⟨F.kind, F.ekind, F.globals, F.builtins, F.names, F.back, F.code.live L, ⟨o', es', ep', put_self _ _ _, g2, g3, fun y w hy hw => ?_⟩, fun y hy => ?_, F.apart, fun y w hy hw => ?_⟩ trivial
    · rw [upd_lookup] at hw
      rw [g4 y]
      split at hw
      · rename_i e
        cases hw
        exact ⟨c, if_pos e, rv.live L⟩
      · rename_i e
        obtain ⟨c', h1, h2⟩ := hv y w hy hw
        exact ⟨c', (if_neg e).trans h1, h2.live L⟩
    · obtain ⟨c', o'', cv, h1, h2, h3, h4, h5⟩ := F.cel y hy
      refine ⟨c', o'', cv, h1, (put_ne W _ h4).trans h2, h3, h4, fun w hw => ?_⟩
      rw [upd_lookup] at hw
      split at hw
      · rename_i e
        subst e
        rw [hx] at hy; cases hy
      · obtain ⟨u, e1, e2⟩ := h5 w hw
        exact ⟨u, e1, e2.live L⟩
    · obtain ⟨c', o'', u, h1, h2, h3, h4, h5, h6⟩ := F.fre y w hy hw
      exact ⟨c', o'', u, h1, (put_ne W _ h5).trans h2, h3, h4.live L, h5, h6⟩
  · rename_i hx
    obtain ⟨a, o, cv, ha, hc, hd, hl, hv⟩ := F.cel x hx
    refine wpAny_storeName_cell F.ekind (F.names x _ hx) ha (isCell_of S hc hd) fun h' hn sb => ?_
    obtain ⟨o', g1, g2⟩ := hn
    have L : Live W (put W a (.prv o')) := live_put hc
    refine q () _ _ ((lex_put hc).mono fun b e => .inr ⟨x, hx, e ▸ ha⟩) (S.repin hc _ sb g1 (S.prv_new hc)) ⟨F.kind, F.ekind, F.globals, F.builtins, F.names, F.back, F.code.live L, ?_, fun y hy => ?_, F.apart, fun y w hy hw => ?_⟩ trivial
    · obtain ⟨o1, es, m, h1, h2, h3, h4⟩ := F.loc
      refine ⟨o1, es, m, (put_ne W _ (Ne.symm hl)).trans h1, h2, h3, fun y w hy hw => ?_⟩
      rw [upd_lookup] at hw
      split at hw
      · rename_i e
        subst e
        rw [hx] at hy; cases hy
      · obtain ⟨c', e1, e2⟩ := h4 y w hy hw
        exact ⟨c', e1, e2.live L⟩
    · obtain ⟨c', o'', cv', h1, h2, h3, h4, h5⟩ := F.cel y hy
      by_cases e : y = x
      · subst e
        refine ⟨a, o', some c, ha, put_self _ _ _, g2, hl, fun w hw => ?_⟩
        rw [upd_lookup, if_pos rfl] at hw
        cases hw
        exact ⟨c, rfl, rv.live L⟩
      · have hne : c' ≠ a := fun q => e (F.apart y x a hy hx (q ▸ h1) ha)
        refine ⟨c', o'', cv', h1, (put_ne W _ hne).trans h2, h3, h4, fun w hw => ?_⟩
        rw [upd_lookup, if_neg e] at hw
        obtain ⟨u, e1, e2⟩ := h5 w hw
        exact ⟨u, e1, e2.live L⟩
    · obtain ⟨c', o'', u, h1, h2, h3, h4, h5, h6⟩ := F.fre y w hy hw
      have hne : c' ≠ a := fun q => h6 x hx (q ▸ ha)
      exact ⟨c', o'', u, h1, (put_ne W _ hne).trans h2, h3, h4.live L, h5, h6⟩
  · cases h
theorem bind_sound (O : B.Ok) (F : FrameOk W env sc ρ φ) {x : Str} (h : stores sc x = true) (rv : VR W v c) : Sx B A W H env sc φ (bindName env x c) (TT (β := Unit)) () (upd x v ρ) H :=
  fun E Q s S q => wpAny_bindName (store_sound O F h rv E Q s S q)

/-! items drawn -/
theorem draw_sound (O : B.Ok) (hA : A.handled = none) : ∀ (n : Nat) {W : OM} {it : It} {X : List Addr} {c : Value} {vs : List V}, ItR W it c X → drawV B.K H n it = some vs →
    ∀ (E : Value → Shared → Prop) (Q : List Value → Shared → Prop) (s : Shared), Sim B W H s →
      (∀ cs s' W' it', cs.length = n → LeX (· ∈ X) W W' → Sim B W' H s' → VRs W' vs cs → ItR W' it' c X → next B.K H it' = some none → Q cs s') → wpAny B.m A (draw c n) Q E s
  | 0, W, it, X, c, vs, h, hd, E, Q, s, S, q => by
    unfold drawV at hd
    split at hd
    · rename_i hn
      cases hd
      exact wpAny_pure (q [] s W it rfl (LeX.refl W) S .nil h hn)
    · cases hd
  | n + 1, W, it, X, c, vs, h, hd, E, Q, s, S, q => by
    unfold drawV at hd
    split at hd
    · rename_i w it' hn
      split at hd
      · rename_i ws hw
        cases hd
        refine wpAny_bind (next_sound O hA h hn E _ s S fun c' s' W' l S' r h' => ?_)
        refine wpAny_bind (wpAny_holding (draw_sound O hA n h' hw E _ s' S' fun cs s'' W'' it'' hl l' S'' rs h'' hn' => ?_))
        exact wpAny_pure (q _ _ W'' it'' (by rw [List.length_cons, hl]) (l.trans l') S'' (.cons (r.live l'.live) rs) h'' hn')
      · cases hd
    · cases hd
end
end Mini
namespace Mini
open PySem PySem.W PySem.W.X PySem.Calls PyProof.Rows Builtin

section
variable {B : Base} {A : Around} {W W' : OM} {H H' H'' : Hp} {env : Env} {sc : Scope} {ρ ρ' ρ'' φ : Loc} {s : Shared} {v u : V} {c d : Value} {n : Nat} {r : Rec} {α β γ δ : Type}

theorem le_round {W W₁ W₂ : OM} {X : List Addr} (l : Le W W₁) (hX : ∀ a ∈ X, W a = none) (l' : LeX (· ∈ X) W₁ W₂) : Le W (drop W₂ X) := fun a x e => by
  have ha : a ∉ X := fun h => by rw [hX a h] at e; cases e
  unfold drop
  rw [if_neg ha]
  exact (l' a x (l a x e)).resolve_left fun q => ha q.2

theorem unpack_sound (O : B.Ok) (hA : A.handled = none) {m : Nat} {vs : List V} (rv : VR W v c) (h : unpackV B.K H v m = some vs) :
    Sm B A W H (unpackItems c m none) VRs vs H := by
  intro E Q s S q
  have go : ∀ {it : It}, iterOf B.K H v = some it → drawV B.K H m it = some vs → wpAny B.m A (notIterableAtAll c) (fun b s' => b = false ∧ s' = s) (fun _ _ => False) s → wpAny B.m A (unpackItems c m none) Q E s := by
    intro it hi hd hni
    unfold unpackItems
    refine wpAny_bind (wpAny_mono hni (fun b s' hb => ?_) fun _ _ x => x.elim)
    obtain ⟨rfl, rfl⟩ := hb
    simp only [Bool.false_eq_true, if_false]
    refine wpAny_bind (wpAny_holding (iter_sound O rv hi E _ s' S fun c' s₁ W₁ X l₁ S₁ hit hX => ?_))
    refine wpAny_bind (wpAny_holding (draw_sound O hA m hit hd E _ s₁ S₁ fun cs s₂ W₂ it' hl l₂ S₂ rs hit' hn => ?_))
    rw [if_neg (by omega)]
    refine wpAny_bind (wpAny_holding (next_sound O hA hit' hn E _ s₂ S₂ fun s₃ S₃ => ?_))
    simp only [Option.isSome_none, Bool.false_eq_true, if_false]
    exact wpAny_pure (q cs s₃ _ (le_round l₁ hX l₂) S₃ (rs.live (lex_drop hit'.prv).live))
  unfold unpackV at h
  split at h
  · rename_i us
    refine go (by rfl) h ?_
    cases rv with
    | @tup _ cvs a k e z =>
      unfold notIterableAtAll
      exact wpAny_bind (wpAny_specialOf (T := "tuple") ⟨_, S.fro _ _ e, rfl⟩ F.slot_tuple_iter.lookup (wpAny_pure ⟨rfl, rfl⟩))
  · rename_i i
    split at h
    · rename_i it hi
      refine go hi h ?_
      simp only [iterOf] at hi
      split at hi
      · rename_i xs hh
        obtain ⟨a, cvs, k, rfl, g, z⟩ := listOf_sound (xs := xs) O S rv (by simp only [listOf, hh])
        unfold notIterableAtAll
        exact wpAny_bind (wpAny_specialOf (T := "list") ⟨_, g, rfl⟩ PySem.slot_list_iter.lookup (wpAny_pure ⟨rfl, rfl⟩))
      · cases hi
    · cases h
  · cases h

theorem drawV_all {K : Frag} : ∀ vs : List V, drawV K H vs.length (.seq vs) = some vs
  | [] => rfl
  | v :: vs => by
    have := drawV_all (K := K) vs
    show (match next K H (.seq (v :: vs)) with
      | some (some (v, it')) => (match drawV K H vs.length it' with | some vs => some (v :: vs) | none => none)
      | _ => none) = _
    simp only [next]
    rw [this]
theorem noStar_each : ∀ {ts : List Expr}, ts.any isStar = false → (assignEach ts env).map (·.2) = ts.map (fun t => assign t env) ∧ (assignEach ts env).findIdx? (·.1) = none ∧ (assignEach ts env).length = ts.length
  | [], _ => ⟨rfl, rfl, rfl⟩
  | t :: ts, h => by
    rw [List.any_cons, Bool.or_eq_false_iff] at h
    obtain ⟨h1, h2, h3⟩ := noStar_each h.2
    have e : assignEach (t :: ts) env = (false, assign t env) :: assignEach ts env := by
      cases t <;> first | rfl | (exact absurd h.1 (by simp [isStar]))
    rw [e]
    exact ⟨by simp [h1], by simp [List.findIdx?_cons, h2], by simp [h3]⟩

theorem release_sx {vs keep : List Value} (F : FrameOk W env sc ρ φ) : Sx B A W H env sc φ (release vs keep) (TT (β := Unit)) () ρ H := fun E Q s S q => wp_release (q () s W (LeX.refl W) S F trivial)

theorem asg1_sound (O : B.Ok) (hr : Snd B n r) (hA : Rm (n + 1) A) (F : FrameOk W env sc ρ φ) {t : Expr} (rv : VR W v c) (h : asg1 B.K r sc φ t v ρ H = some (ρ', H')) : Sx B A W H env sc φ (assign t env c) (TT (β := Unit)) () ρ' H' := by
  unfold asg1 at h
  split at h
  · rename_i x pos
    split at h
    · rename_i hs
      cases h
      rw [arm_assign_Name]
      exact Sx.at (bind_sound O F hs rv)
    · cases h
  · rename_i o a pos
    split at h
    · rename_i ov H1 ho
      split at h
      · rename_i H2 hset
        cases h
        rw [arm_assign_Attribute]
        refine Sm.bindx (hr.ev ho hA.less F).held fun W1 oc l1 ro => Sx.at ?_
        refine Sm.bindx (setAttr_sound O hr.call hA ro (rv.le l1) hset).held fun W2 _ l2 _ => ?_
        exact release_sx ((F.le l1).le l2)
      · cases h
    · cases h
  · rename_i o i pos
    split at h
    · rename_i ov H1 ho
      split at h
      · rename_i iv H2 hi
        split at h
        · rename_i H3 hset
          cases h
          rw [arm_assign_Subscript]
          refine Sm.bindx (hr.ev ho hA.less F).held fun W1 oc l1 ro => ?_
          refine Sm.bindx (hr.ev hi hA.less (F.le l1)).held fun W2 ic l2 ri => Sx.at ?_
          refine Sm.bindx (setItem_sound O (ro.le l2) ri (rv.le (l1.trans l2)) hset).held fun W3 _ l3 _ => ?_
          exact release_sx (((F.le l1).le l2).le l3)
        · cases h
      · cases h
    · cases h
  · cases h

theorem asgs_sound (O : B.Ok) (hr : Snd B n r) (hA : Rm (n + 1) A) : ∀ {ts : List Expr} {vs : List V} {cs : List Value} {ρ ρ' : Loc} {H H' : Hp} {W : OM}, FrameOk W env sc ρ φ → VRs W vs cs → asgs (asg1 B.K r sc φ) ts vs ρ H = some (ρ', H') →
    Sx B A W H env sc φ (assignInOrder (ts.map fun t => assign t env) cs) (TT (β := Unit)) () ρ' H'
  | [], _, _, _, _, _, _, _, F, .nil, h => by
    cases h
    exact Sx.pure F trivial
  | t :: ts, _, _, _, _, _, _, _, F, .cons a z, h => by
    unfold asgs at h
    split at h
    · rename_i ρ1 H1 h1
      exact Sx.bind (asg1_sound O hr hA F a h1).held fun W1 _ l1 F1 _ => asgs_sound O hr hA F1 (z.live l1.live) h
    · cases h
  | [], _, _, _, _, _, _, _, F, .cons a z, h => by cases h
  | t :: ts, _, _, _, _, _, _, _, F, .nil, h => by cases h

theorem asg_sound (O : B.Ok) (hr : Snd B n r) (hA : Rm (n + 1) A) (F : FrameOk W env sc ρ φ) {t : Expr} (rv : VR W v c) (h : asg B.K r sc φ t v ρ H = some (ρ', H')) : Sx B A W H env sc φ (assign t env c) (TT (β := Unit)) () ρ' H' := by
  unfold asg at h
  split at h
  · rename_i ts k pos
    split at h
    · cases h
    · rename_i hs
      split at h
      · rename_i vs hu
        rw [arm_assign_Tuple]
        obtain ⟨e1, e2, e3⟩ := noStar_each (env := env) (Bool.not_eq_true _ ▸ hs : ts.any isStar = false)
        refine Sx.at ?_
        unfold unpack
        rw [e2, e3]
        refine Sm.bindx (unpack_sound O hA.handled rv hu).held fun W1 cs l1 rs => ?_
        rw [e1]
        exact asgs_sound O hr hA (F.le l1) rs h
      · cases h
  · exact asg1_sound O hr hA F rv h

/-! lists of expressions -/
theorem spliced_sound (hr : Snd B n r) (hA : Rm n A) {pos : Pos} : ∀ {es : List Expr} {vs : List V} {H H' : Hp} {W : OM}, FrameOk W env sc ρ φ → es.any isStar = false → evs (r.ev sc ρ φ) es H = some (vs, H') →
    Sm B A W H (spliced (backTo pos (starEach es env))) VRs vs H'
  | [], vs, H, H', W, F, _, h => by
    cases h
    exact Sm.pure .nil
  | e :: es, vs, H, H', W, F, hs, h => by
    rw [List.any_cons, Bool.or_eq_false_iff] at hs
    have he : starEach (e :: es) env = (false, eval e env) :: starEach es env := by
      cases e <;> first | rfl | (exact absurd hs.1 (by simp [isStar]))
    unfold evs at h
    split at h
    · rename_i v1 H1 h1
      split at h
      · rename_i vs1 H2 h2
        cases h
        rw [he]
        show Sm B A W H (spliced ((false, eval e env) :: backTo pos (starEach es env))) VRs (v1 :: vs1) H'
        intro E Q s S q
        refine Calls.spliced_cons (hr.ev h1 hA F E _ s S fun c s1 W1 l1 S1 r1 => ?_)
        exact spliced_sound hr hA (F.le l1) hs.2 h2 E _ s1 S1 fun cs s2 W2 l2 S2 r2 => q _ _ _ (l1.trans l2) S2 (.cons (r1.le l2) r2)
      · cases h
    · cases h

def allNamed : List Keyword → Bool
  | [] => true
  | ⟨some _, _, _⟩ :: r => allNamed r
  | _ => false
theorem evk_named : ∀ {ks : List Keyword} {kv : List (Str × V)} {H H' : Hp}, evk (r.ev sc ρ φ) ks H = some (kv, H') → allNamed ks = true ∧ kv.map (·.1) = ks.filterMap (·.arg)
  | [], kv, H, H', h => by cases h; exact ⟨rfl, rfl⟩
  | ⟨some x, e, p⟩ :: ks, kv, H, H', h => by
    unfold evk at h
    split at h
    · rename_i v1 H1 h1
      split at h
      · rename_i vs1 H2 h2
        cases h
        obtain ⟨a, b⟩ := evk_named h2
        exact ⟨a, by simp [b]⟩
      · cases h
    · cases h
  | ⟨none, e, p⟩ :: ks, kv, H, H', h => by cases h
theorem kw_shape {pos : Pos} : ∀ {ks : List Keyword}, allNamed ks = true → (backToKw pos (keywordEach ks env)).all (·.1.isSome) = true ∧ (backToKw pos (keywordEach ks env)).any (·.1.isNone) = false ∧ (backToKw pos (keywordEach ks env)).filterMap (·.1) = ks.filterMap (·.arg)
  | [], _ => ⟨rfl, rfl, rfl⟩
  | ⟨some x, e, p⟩ :: ks, h => by
    obtain ⟨a, b, c⟩ := kw_shape (pos := pos) (ks := ks) h
    rw [arm_keywordEach_cons]
    unfold backToKw at a b c ⊢
    refine ⟨?_, ?_, ?_⟩
    · rw [List.map_cons, List.all_cons, a]; rfl
    · rw [List.map_cons, List.any_cons, b]; rfl
    · rw [List.map_cons, List.filterMap_cons, List.filterMap_cons, c]
  | ⟨none, e, p⟩ :: ks, h => by cases h
theorem evalKw_sound (hr : Snd B n r) (hA : Rm n A) {pos : Pos} : ∀ {ks : List Keyword} {kv : List (Str × V)} {H H' : Hp} {W : OM}, FrameOk W env sc ρ φ → evk (r.ev sc ρ φ) ks H = some (kv, H') →
    Sm B A W H (evalAll ((backToKw pos (keywordEach ks env)).map (·.2))) VRs (kv.map (·.2)) H'
  | [], kv, H, H', W, F, h => by
    cases h
    exact Sm.pure .nil
  | ⟨some x, e, p⟩ :: ks, kv, H, H', W, F, h => by
    unfold evk at h
    split at h
    · rename_i v1 H1 h1
      split at h
      · rename_i vs1 H2 h2
        cases h
        show Sm B A W H ((do let v ← eval e env; standAt pos; pure v) >>= fun v => (holding [v] (evalAll ((backToKw pos (keywordEach ks env)).map (·.2)))) >>= fun vs => pure (v :: vs)) VRs _ H'
        refine Sm.bind (R := VR) (b := v1) (H' := H1) (Sm.bind (hr.ev h1 hA F) fun W1 c l1 r1 => Sm.at (Sm.pure r1)) fun W1 c l1 r1 => ?_
        exact Sm.bind (evalKw_sound hr hA (F.le l1) h2).held fun W2 cs l2 r2 => Sm.pure (.cons (r1.le l2) r2)
      · cases h
    · cases h
  | ⟨none, e, p⟩ :: ks, kv, H, H', W, F, h => by cases h
theorem KwR.of {W : OM} : ∀ {kv : List (Str × V)} {ns : List Str} {cs : List Value}, kv.map (·.1) = ns → VRs W (kv.map (·.2)) cs → KwR W kv (ns.zip cs)
  | [], ns, cs, h, z => by
    cases h; cases z; trivial
  | (x, v) :: kv, ns, cs, h, z => by
    cases h
    cases z with
    | cons a b => exact ⟨rfl, a, KwR.of rfl b⟩
end
end Mini
namespace Mini
open PySem PySem.W PySem.Calls PyProof.Rows Builtin

/-! facts of the bytes' methods -/
theorem slot_isdigit : Slot "bytes" "isdigit" "bytes.isdigit" :=
  .of (owner := "bytes") (n := "isdigit") (by rw [typeLookup_type, builtinLookup_eq_fast]; kernel_rfl) (by decide +kernel) (by decide +kernel) (by decide +kernel)
    (by first | exact .inl (by decide +kernel) | exact .inr (by decide +kernel)) (by rw [isSubtype_type]; kernel_rfl)
theorem type_isdigit : typeOf (.builtin "bytes.isdigit") = pure (.type "method_descriptor") := by show builtinType _ = _; rw [builtinType_eq_fast]; kernel_rfl
theorem entry_isdigit : entryFor table "bytes.isdigit" = some Builtin.«bytes.isdigit» := entryFor_of_tree (by kernel_rfl)
theorem args_isdigit (a : Value) : argsOk "bytes.isdigit" ⟨[a], []⟩ := by
  unfold argsOk; rw [signature?_of (id := "bytes.isdigit") (n := ['t', 'i', 'g', 'i', 'd', 's', 'i']) (o := ['s', 'e', 't', 'y', 'b']) (by kernel_rfl) FB.owner_bytes]; kernel_rfl
theorem slot_find : Slot "bytes" "find" "bytes.find" :=
  .of (owner := "bytes") (n := "find") (by rw [typeLookup_type, builtinLookup_eq_fast]; kernel_rfl) (by decide +kernel) (by decide +kernel) (by decide +kernel)
    (by first | exact .inl (by decide +kernel) | exact .inr (by decide +kernel)) (by rw [isSubtype_type]; kernel_rfl)
theorem type_find : typeOf (.builtin "bytes.find") = pure (.type "method_descriptor") := by show builtinType _ = _; rw [builtinType_eq_fast]; kernel_rfl
theorem entry_find : entryFor table "bytes.find" = some Builtin.«bytes.find» := entryFor_of_tree (by kernel_rfl)
theorem args_find (a b : Value) : argsOk "bytes.find" ⟨[a, b], []⟩ := by
  unfold argsOk; rw [signature?_of (id := "bytes.find") (n := ['d', 'n', 'i', 'f']) (o := ['s', 'e', 't', 'y', 'b']) (by kernel_rfl) FB.owner_bytes]; kernel_rfl
theorem args_decode (a b : Value) : argsOk "bytes.decode" ⟨[a, b], []⟩ := by
  unfold argsOk; rw [signature?_of (id := "bytes.decode") (n := ['e', 'd', 'o', 'c', 'e', 'd']) (o := ['s', 'e', 't', 'y', 'b']) (by kernel_rfl) FB.owner_bytes]; kernel_rfl

section
variable {prog : Program} {w : World} {A : Around} {E : Value → Shared → Prop} {Q : Value → Shared → Prop} {s : Shared} {b k : Array UInt8} {t t' : Tok}
theorem isdigit_eq : Builtin.«bytes.isdigit» ⟨[.bytes b t], []⟩ = ret (.bool (Bytes.allOf Bytes.isDigit b.toList)) := by kernel_rfl
theorem call_isdigit (h : Q (.bool (Bytes.allOf Bytes.isDigit b.toList)) s) : wpAny (model prog w) A (call (.builtin "bytes.isdigit") [.bytes b t]) Q E s :=
  call_meets slot_isdigit (typeIs_bytes _ _ _) entry_isdigit (args_isdigit _) (S := fun _ R s => R (.ok (.ret (.bool (Bytes.allOf Bytes.isDigit b.toList)))) s) (.of_wp fun prog w A R s hS => by
    rw [isdigit_eq]
    exact wpAny_pure ⟨_, rfl, hS⟩) h
theorem meth_isdigit {M : Model} {pl : Sem Bool} {Q : Value × List Value → Shared → Prop} (h : Q (.builtin "bytes.isdigit", [.bytes b t]) s) : wpAny M A (getMethod (.bytes b t) "isdigit" pl) Q E s := by
  with_reducible exact KBd.method_of (.bytes b t) (typeIs_bytes _ _ _) slot_isdigit type_isdigit KBd.noRef h
theorem meth_find {M : Model} {pl : Sem Bool} {Q : Value × List Value → Shared → Prop} (h : Q (.builtin "bytes.find", [.bytes b t]) s) : wpAny M A (getMethod (.bytes b t) "find" pl) Q E s := by
  with_reducible exact KBd.method_of (.bytes b t) (typeIs_bytes _ _ _) slot_find type_find KBd.noRef h
def findI : Option Nat → Int
  | some i => i
  | none => -1
def findO (b k : Array UInt8) : Option Nat := ((if (min (b.size : Int) b.size) - 0 < k.size then none else some (((0 : Int).toNat, (min (b.size : Int) b.size).toNat))) : Option (Nat × Nat)).bind fun x => Bytes.find? b k x.1 x.2
theorem find_eq : Builtin.«bytes.find» ⟨[.bytes b t, .bytes k t'], []⟩ = (match findO b k with
    | some i => retInt i
    | none => rule "bytes.find.not-found" >>= fun _ => retInt (-1)) := by
  kernel_rfl
theorem runD1 {id : String} {x : UInt8} (hx : x.toNat < 128) : _codecs.runDecoder id _codecs.asciiDecoder none true #[x] 0 [] = pure (#[x.toNat], 1) := by
  unfold _codecs.runDecoder
  simp [forIn, _codecs.asciiDecoder, hx, _codecs.Found.char]
theorem runD2 {id : String} {x y : UInt8} (hx : x.toNat < 128) (hy : y.toNat < 128) : _codecs.runDecoder id _codecs.asciiDecoder none true #[x, y] 0 [] = pure (#[x.toNat, y.toNat], 2) := by
  unfold _codecs.runDecoder
  simp [forIn, _codecs.asciiDecoder, hx, hy, _codecs.Found.char, List.range', sizeLine_eq]
theorem runD3 {id : String} {x y z : UInt8} (hx : x.toNat < 128) (hy : y.toNat < 128) (hz : z.toNat < 128) : _codecs.runDecoder id _codecs.asciiDecoder none true #[x, y, z] 0 [] = pure (#[x.toNat, y.toNat, z.toNat], 3) := by
  unfold _codecs.runDecoder
  simp [forIn, _codecs.asciiDecoder, hx, hy, hz, _codecs.Found.char, List.range', sizeLine_eq]
theorem run_ascii {id : String} (he : b.isEmpty = false) (h3 : b.size ≤ 3) (ha : b.toList.all (fun u => u.toNat < 128) = true) : ∃ n, _codecs.runDecoder id _codecs.asciiDecoder none true b 0 [] = pure (b.map UInt8.toNat, n) := by
  obtain ⟨l⟩ := b
  match l, he, h3, ha with
  | [x], _, _, h => simp at h; exact ⟨1, by simpa using runD1 h⟩
  | [x, y], _, _, h => simp at h; exact ⟨2, by simpa using runD2 h.1 h.2⟩
  | [x, y, z], _, _, h => simp at h; exact ⟨3, by simpa using runD3 h.1 h.2.1 h.2.2⟩
  | _ :: _ :: _ :: _ :: _, _, h, _ => simp at h
theorem road_ascii {id : String} : _codecs.decodeRoad id b (PySem.Str.ofString "ascii") none [] = (_codecs.runDecoder id _codecs.asciiDecoder none true b 0 [] >>= fun r => mkStr ⟨r.1⟩) := by kernel_rfl
theorem meets_text {t1 t2 : Tok} {d : PySem.Str} {x : Array Nat} {n : Nat} (hd : ∀ id, _codecs.runDecoder id _codecs.asciiDecoder none true b 0 [] = pure (x, n)) :
    Meets («_codecs.decode.text» ⟨[.bytes b t, .str (PySem.Str.ofString "ascii") t1, .none, .str d t2], []⟩) (fun _ R s => x.size ≤ sizeLine ∧ R (.ok (.ret (.str ⟨x⟩ s.toks))) { s with toks := s.toks + 1 }) := by
  refine .of_wp fun prog w A R s hS => ?_
  obtain ⟨hsz, h⟩ := hS
  show wpAny _ _ (Bytes.bytesLike _ (.bytes b t) >>= fun r => _) _ _ s
  refine wpAny_bind (wpAny_of_eq KBd.like_eq ?_)
  refine wpAny_bind (wpAny_of_eq KBd.held_eq ?_)
  show wpAny _ _ (_codecs.decodeRoad _ b (PySem.Str.ofString "ascii") none [] >>= fun v => _) _ _ s
  rw [road_ascii, hd]
  refine wpAny_bind (wpAny_bind (wpAny_pure ?_))
  exact wpAny_mkStr (wpAny_pure ⟨_, rfl, h⟩) hsz
theorem decode_eq {c : UInt8} {cs : List UInt8} : «bytes.decode» ⟨[.bytes (c :: cs).toArray t, .str (PySem.Str.ofString "ascii") t'], []⟩ = (mkStr (PySem.Str.ofString "utf-8") >>= fun _ => mkStr (PySem.Str.ofString "ascii") >>= fun e => mkStr (PySem.Str.ofString "bytes.decode") >>= fun d =>
    call (.builtin "_codecs.decode.text") [.bytes (c :: cs).toArray t, e, .none, d] >>= fun v => ret v) := by kernel_rfl
theorem call_decode (he : b.isEmpty = false) (h3 : b.size ≤ 3) (ha : b.toList.all (fun u => u.toNat < 128) = true) (h : ∀ t' k, Q (.str ⟨b.map UInt8.toNat⟩ t') { s with toks := k }) :
    wpAny (model prog w) A (call (.builtin "bytes.decode") [.bytes b t, .str (PySem.Str.ofString "ascii") t']) Q E s := by
  have hd : ∃ n, ∀ id, _codecs.runDecoder id _codecs.asciiDecoder none true b 0 [] = pure (b.map UInt8.toNat, n) := by
    obtain ⟨l⟩ := b
    match l, he, h3, ha with
    | [x], _, _, h => simp at h; exact ⟨1, fun id => by simpa using runD1 h⟩
    | [x, y], _, _, h => simp at h; exact ⟨2, fun id => by simpa using runD2 h.1 h.2⟩
    | [x, y, z], _, _, h => simp at h; exact ⟨3, fun id => by simpa using runD3 h.1 h.2.1 h.2.2⟩
    | _ :: _ :: _ :: _ :: _, _, h, _ => simp at h
  obtain ⟨n, hd⟩ := hd
  obtain ⟨l⟩ := b
  match l, he with
  | c :: cs, _ =>
    refine call_meets FB.slot_bytes_decode (typeIs_bytes _ _ _) FB.entry_bytes_decode (args_decode _ _) (S := fun _ R s => ∀ t' k, R (.ok (.ret (.str ⟨(c :: cs).toArray.map UInt8.toNat⟩ t'))) { s with toks := k }) (.of_wp fun prog w A R s hS => ?_) h
    rw [decode_eq]
    refine wpAny_bind (wpAny_mkStr ?_ (by decide))
    refine wpAny_bind (wpAny_mkStr ?_ (by decide))
    refine wpAny_bind (wpAny_mkStr ?_ (by decide))
    refine wpAny_bind (call_function_meets KBd.kind_text KBd.plain_text KBd.entry_text (KBd.args_text _ _ _ _) (meets_text hd) ⟨?_, wpAny_pure ⟨_, rfl, hS _ _⟩⟩)
    rw [sizeLine_eq]
    simp at h3 ⊢
    omega
theorem call_find (h : Q (.int (findI (findO b k)) s.toks) { s with toks := s.toks + 1 }) : wpAny (model prog w) A (call (.builtin "bytes.find") [.bytes b t, .bytes k t']) Q E s := by
  refine call_meets slot_find (typeIs_bytes _ _ _) entry_find (args_find _ _) (S := fun _ R s => R (.ok (.ret (.int (findI (findO b k)) s.toks))) { s with toks := s.toks + 1 }) (.of_wp fun prog w A R s hS => ?_) h
  rw [find_eq]
  cases ho : findO b k with
  | some i =>
    rw [ho] at hS
    refine wpAny_bind (wpAny_mkInt ?_)
    refine wpAny_pure ?_
    exact ⟨_, rfl, hS⟩
  | none =>
    rw [ho] at hS
    refine wpAny_bind (wpAny_rule ?_)
    refine wpAny_bind (wpAny_mkInt ?_)
    refine wpAny_pure ?_
    exact ⟨_, rfl, hS⟩
end
end Mini
namespace Mini
open PySem PySem.W PySem.Calls PyProof.Rows Builtin

theorem kind_bisect : builtinKind "_bisect.bisect_left" = none := by decide +kernel
theorem plain_bisect : plainId "_bisect.bisect_left" = true := by decide +kernel
theorem entry_bisect : entryFor table "_bisect.bisect_left" = some Builtin.«_bisect.bisect_left» := entryFor_of_tree (by kernel_rfl)
theorem entry_bloop : entryFor table "_bisect.bisect_right.loop" = some Builtin.«_bisect.bisect_right.loop» := entryFor_of_tree (by kernel_rfl)
theorem quiet_bloop (args : Args) : (Code.builtin "_bisect.bisect_right.loop" args).quiet = true := by kernel_rfl
theorem args_bisect (a b c : Value) : argsOk "_bisect.bisect_left" ⟨[a, b, c], []⟩ := by unfold argsOk; kernel_rfl

theorem mroList : mroOf (.type "list") = pure [.type "list", .type "object"] := by rw [mroOf_type]; kernel_rfl
theorem typeName_list : typeName (.type "list") = pure "list" := by unfold typeName; rw [find?_eq_fast]; kernel_rfl
theorem cut_list {M : Model} {A : Around} {E : Value → Shared → Prop} {s : Shared} {a : Addr} {n : Nat} {Q : String → Shared → Prop} (hT : s.TypeIs (.ref a) "list") (h : Q "list" s) : wpAny M A (typeNameOfCut n (.ref a)) Q E s := by
  unfold typeNameOfCut shownTypeOf
  refine wpAny_bind (wpAny_bind (wpAny_typeOf hT ?_))
  simp only [show (Value.type "list" == Value.type "builtin_function_or_method") = false by decide, Bool.false_eq_true, if_false]
  refine wpAny_pure ?_
  rw [show typeNameCut n (.type "list") = typeName (.type "list") from rfl, typeName_list]; exact wpAny_pure h

section
variable {prog : Program} {w : World} {A : Around} {E : Value → Shared → Prop} {Q : Value → Shared → Prop} {R : Result → Shared → Prop} {s : Shared} {a : Addr} {cvs : Array Value} {k : Nat} {x : Int} {t t' : Tok} {ns : List Int}

theorem meets_lget {i : Int} {u : Tok} {y : Value} (h0 : 0 ≤ i) (hx : cvs[i.toNat]? = some y) (hj : i < 10000) : Meets (Builtin.«list.__getitem__» ⟨[.ref a, .int i u], []⟩) (fun _ R s => s.heap.get? a = some { cls := .type "list", data := .seq cvs k } ∧ R (.ok (.ret y)) s) := by
  refine Meets.of_wp ?_
  intro prog w A R s hS
  obtain ⟨hl, hR⟩ := hS
  have hf : Builtin.List.listFitsIndex i = true := fitsIndex_of h0 (by omega)
  show wpAny _ _ (Builtin.List.listSubscript? (.int i u) >>= _) _ _ s
  refine wpAny_bind (wpAny_listSubscript_int hf ?_)
  clear hf hj
  obtain ⟨j, rfl⟩ := Int.eq_ofNat_of_zero_le h0
  have hx' : cvs[j]? = some y := hx
  show wpAny _ _ ((seqItemAt a j >>= fun r => pure (r.map (j, ·))) >>= _) _ _ s
  refine wpAny_bind (wpAny_bind (wpAny_seqItemAt hl rfl (wpAny_pure ?_)))
  rw [hx']
  exact wpAny_pure ⟨y, rfl, hR⟩
theorem list_get (hl : s.heap.get? a = some { cls := .type "list", data := .seq cvs k }) {i : Int} {u : Tok} {y : Value} (h0 : 0 ≤ i) (hx : cvs[i.toNat]? = some y) (hj : i < 10000) (h : Q y s) :
    wpAny (model prog w) A (call (.builtin "list.__getitem__") [.ref a, .int i u]) Q E s := by
  have hi : s.heap.IsList a cvs := ⟨_, hl, rfl, k, rfl⟩
  exact call_meets slot_list_getitem hi.typeIs entry_list_getitem (args_list_getitem _ _) (meets_lget h0 hx hj) ⟨hl, h⟩
def bGo (xs : List Int) (x : Int) : Nat → Nat → Nat → Option Nat
  | 0, _, _ => none
  | n + 1, lo, hi => if lo < hi then (match xs[(lo + hi) / 2]? with
    | some y => if y < x then bGo xs x n ((lo + hi) / 2 + 1) hi else bGo xs x n lo ((lo + hi) / 2)
    | none => none) else some lo

theorem bisect_loop (hz : ns.length < 10000) (z : ∀ (i : Nat) (y : Int), ns[i]? = some y → ∃ u, cvs[i]? = some (.int y u)) : ∀ (m lo hi r : Nat) (s : Shared), bGo ns x m lo hi = some r → s.heap.get? a = some { cls := .type "list", data := .seq cvs k } →
    (∀ t' j, R (.ok (.ret (.int r t'))) { s with toks := j }) →
    codeAny (model prog w) A (.builtin "_bisect.bisect_right.loop" ⟨[.ref a, .int x t, rawInt lo, rawInt hi, .none, .bool false, .bool true, rawInt 0], []⟩) R s
  | 0, _, _, _, _, h, _, _ => by cases h
  | m + 1, lo, hi, r, s, h, hl, hR => by
    refine codeAny_builtin entry_bloop ?_
    unfold bGo at h
    show wpAny _ _ (if (lo : Int) < hi then _ else _) _ _ s
    split at h
    · rename_i hlt
      rw [if_pos (by omega)]
      split at h
      · rename_i y hy
        obtain ⟨u, hu⟩ := z _ _ hy
        have hj : (lo + hi) / 2 < 10000 := by have := (List.getElem?_eq_some_iff.mp hy).1; omega
        refine wpAny_bind (wpAny_mkInt ?_)
        have em : (((lo : Int) + hi) / 2).toNat = (lo + hi) / 2 := by omega
        have h0 : 0 ≤ ((lo : Int) + hi) / 2 := by omega
        have hi2 : s.heap.IsList a cvs := ⟨_, hl, rfl, k, rfl⟩
        refine wpAny_bind (wpAny_callSpecial?_slot (name := Str.ofString "__getitem__") (T := "list") hi2.typeIs slot_list_getitem (list_get (s := { s with toks := s.toks + 1 }) hl h0 (by rw [em]; exact hu) (by omega) ?_))
        refine wpAny_bind (wpAny_pure ?_)
        show wpAny _ _ (holding [.int y u] _) _ _ _
        refine wpAny_holding ?_
        refine wpAny_bind (wpAny_typeOf (typeIs_int _ _ _) ?_)
        refine wpAny_bind (wpAny_typeOf (typeIs_int _ _ _) ?_)
        refine wpAny_bind (wpAny_cRoomFor_byValue rfl ?_)
        refine wpAny_bind (wpAny_callSpecialIfBound?_slot (name := Str.ofString "__lt__") (T := "int") (typeIs_int _ _ _) F.slot_int_lt (call_gives F.slot_int_lt (typeIs_int _ _ _) F.entry_int_lt (F.args_int_lt_2 _ _) (gives_int_lt _ _ _ _) ?_))
        show wpAny _ _ (truthOfDropped (.bool (decide (y < x))) >>= _) _ _ _
        refine wpAny_bind (wpAny_of_eq (a := decide (y < x)) rfl ?_)
        split at h
        · rename_i hyx
          rw [decide_eq_true hyx]
          show wpAny _ _ (again _) _ _ _
          refine wpAny_pure ⟨quiet_bloop _, ?_⟩
          have em2 : ((lo : Int) + hi) / 2 + 1 = (((lo + hi) / 2 + 1 : Nat) : Int) := by omega
          rw [em2]
          exact bisect_loop hz z m _ _ r _ h hl fun t' j => hR t' j
        · rename_i hyx
          rw [decide_eq_false hyx]
          show wpAny _ _ (again _) _ _ _
          refine wpAny_pure ⟨quiet_bloop _, ?_⟩
          have em2 : ((lo : Int) + hi) / 2 = (((lo + hi) / 2 : Nat) : Int) := by omega
          rw [em2]
          exact bisect_loop hz z m _ _ r _ h hl fun t' j => hR t' j
      · cases h
    · rename_i hlt
      cases h
      rw [if_neg (by omega)]
      refine wpAny_bind (wpAny_mkInt ?_)
      exact wpAny_pure (hR _ _)
theorem call_bisect (hl : s.heap.get? a = some { cls := .type "list", data := .seq cvs k }) (hz : ns.length < 10000) (hc : cvs.size = ns.length) (z : ∀ (i : Nat) (y : Int), ns[i]? = some y → ∃ u, cvs[i]? = some (.int y u)) {L : Int} {m : Nat} {r : Nat} (h0 : 0 ≤ L) (hlo : L < 10000) (h : bGo ns x m L.toNat ns.length = some r)
    (hQ : ∀ t' j, Q (.int r t') { s with toks := j }) : wpAny (model prog w) A (call (.builtin "_bisect.bisect_left") [.ref a, .int x t, .int L t']) Q E s := by
  refine call_function_meets kind_bisect plain_bisect entry_bisect (args_bisect _ _ _) (S := fun A R s' => s' = s ∧ ∀ t' j, R (.ok (.ret (.int r t'))) { s with toks := j }) ?_ ⟨rfl, hQ⟩
  intro prog w A R s2 hS
  obtain ⟨e, hR⟩ := hS
  subst e
  have hi2 : s2.heap.IsList a cvs := ⟨_, hl, rfl, k, rfl⟩
  show wpAny _ _ (_ >>= _) _ _ _
  refine wpAny_bind ?_
  refine wpAny_of_eq (a := (.ref a, .int x t, some (.int L t'), none, none)) (by kernel_rfl) ?_
  have hb : (!(decide (-(2 ^ 63 : Int) ≤ L) && decide (L < 2 ^ 63))) = false := by
    rw [Bool.not_eq_false', Bool.and_eq_true]
    exact ⟨decide_eq_true (by omega), decide_eq_true (by omega)⟩
  show wpAny _ _ (asIndex (.int L t') >>= _) _ _ _
  refine wpAny_bind (wpAny_of_eq (a := L) rfl ?_)
  show wpAny _ _ (if (!(decide (-(2 ^ 63 : Int) ≤ L) && decide (L < 2 ^ 63))) = true then _ else _) _ _ _
  rw [hb]
  refine wpAny_bind (wpAny_pure ?_)
  refine wpAny_bind (wpAny_pure ?_)
  refine wpAny_bind (wpAny_pure ?_)
  refine wpAny_holding ?_
  show wpAny _ _ (if L < 0 then _ else _) _ _ _
  rw [if_neg (by omega)]
  show wpAny _ _ (_ >>= _) _ _ _
  refine wpAny_bind ?_
  show wpAny _ _ (typeOf (.ref a) >>= _) _ _ _
  refine wpAny_bind (wpAny_typeOf hi2.typeIs ?_)
  refine wpAny_bind (cut_list hi2.typeIs ?_)
  refine wpAny_bind (wpAny_of_eq mroList ?_)
  show wpAny _ _ (typeLookup (.type "list") "__len__" >>= _) _ _ _
  refine wpAny_bind (wpAny_of_eq slot_list_len.lookup ?_)
  refine wpAny_of_eq (a := ()) (by kernel_rfl) ?_
  refine wpAny_bind (wpAny_runValue (codeAny_builtin entry_len ?_))
  rw [Around.under_plainId plain_len _]
  have hfit : (cvs.size : Int) < 2 ^ 63 := by rw [hc]; omega
  refine wpAny_mono (wpAny_len_body_list (Q := fun r s' => r = .int cvs.size (s2.toks + 1) ∧ s' = { s2 with toks := s2.toks + 1 + 1 }) hi2 hfit ⟨rfl, rfl⟩) (fun fin s3 h' => ?_) fun _ _ e => e
  obtain ⟨_, rfl, rfl, rfl⟩ := h'
  refine wpAny_bind (wpAny_pure ?_)
  show wpAny _ _ (_ >>= _) _ _ _
  refine wpAny_bind ?_
  show wpAny _ _ (typeOf (.ref a) >>= _) _ _ _
  refine wpAny_bind (wpAny_typeOf (s := { s2 with toks := s2.toks + 1 + 1 }) (T := "list") hi2.typeIs ?_)
  refine wpAny_bind (cut_list (s := { s2 with toks := s2.toks + 1 + 1 }) hi2.typeIs ?_)
  refine wpAny_bind (wpAny_of_eq mroList ?_)
  show wpAny _ _ (typeLookup (.type "list") "__getitem__" >>= _) _ _ _
  refine wpAny_bind (wpAny_of_eq slot_list_getitem.lookup ?_)
  refine wpAny_of_eq (a := ()) (by kernel_rfl) ?_
  show wpAny _ _ (again _) _ _ _
  refine wpAny_pure ⟨quiet_bloop _, ?_⟩
  obtain ⟨lo, rfl⟩ := Int.eq_ofNat_of_zero_le h0
  rw [hc]
  exact bisect_loop hz z m _ _ r _ h hl fun t' j => hR t' j
end
end Mini
namespace Mini
open PySem PySem.W PySem.W.X PySem.Calls PyProof.Rows Builtin

section
variable {B : Base} {A : Around} {W W' : OM} {H H' H'' : Hp} {env : Env} {sc : Scope} {ρ ρ' ρ'' φ : Loc} {s : Shared} {v u : V} {c d : Value} {n : Nat} {r : Rec} {α β γ δ : Type}

theorem len_inst (X : B.K.In s.heap) {x C f : Addr} {ox : Obj} {od : Option Obj} {E : Value → Shared → Prop} {Q : Value → Shared → Prop} (I : InstAt s.heap x ox C od) (hs : findIn B.K (.ref C) "__len__" = some (some (.ref f))) (hf : isFn B.K (.ref f) = true)
    (h : wpAny B.m A.in1 (call (.ref f) [.ref x]) (fun v s' => ∃ n t, v = .int n t ∧ (0 ≤ n ∧ n < 2 ^ 63) ∧ Q (.int n s'.toks) { s' with toks := s'.toks + 1 }) E s) : wpAny B.m A (call (.builtin "len") [.ref x]) Q E s := by
  refine Calls.call_function_entry kind_len plain_len entry_len (args_len1 _) ?_
  unfold Builtin.«len»
  refine wpAny_bind (m := oneArg "len" _) (wpAny_pure ?_)
  refine wpAny_bind (m := callSpecial? (.ref x) (Str.ofString "__len__")) (special_fn X I hs (beq_iff_eq.mp hf) (wpAny_mono h (fun r s' hr => ?_) fun _ _ y => y))
  obtain ⟨n, t, rfl, ⟨h0, h1⟩, hq⟩ := hr
  refine wpAny_bind (wpAny_holding (wpAny_pure ?_))
  refine wpAny_bind (wpAny_letGo ?_)
  show wpAny _ _ (if n < 0 then _ else _) _ _ _
  rw [if_neg (by omega)]
  show wpAny _ _ (if n ≥ 2 ^ 63 then _ else _) _ _ _
  rw [if_neg (by omega)]
  exact wpAny_bind (wpAny_mkInt (wpAny_pure ⟨_, rfl, hq⟩))

theorem dictOf_heap {prog : Program} {w : World} {a : Addr} {kvs : List (Int × V)} {es : List DictEntry} {k : Nat} (g : s.heap.get? a = some (dictOf es k)) (z : KR W kvs es) (nd : (kvs.map (·.1)).Nodup) : ∃ cs : List (Int × Value), s.heap.DictOf (intKind prog w) a cs ∧ cs.length = kvs.length := by
  obtain ⟨cs, p1, p2, p3⟩ := z.pairs (prog := prog) (w := w)
  have hk : ∀ e ∈ es, ∃ k, (intKind prog w).is k e.key = true ∧ e.hash = (intKind prog w).hash k := fun e he => by
    obtain ⟨k, t, h1, h2⟩ := z.nth e he
    exact ⟨k, by rw [h1]; simp [intKind, Value.isInt], h2⟩
  exact ⟨cs, ⟨_, es.toArray, k, g, ⟨rfl, rfl, rfl⟩, rfl, fun e he => hk e (by simpa using he), by simpa using p1, by rw [p2]; exact nd⟩, by rw [← List.length_map (f := (·.1)), p2, List.length_map]⟩

theorem len_sound (O : B.Ok) {m : Nat} (rv : VR W v c) (h : lenV B.K H v = some m) (hm : m < 2 ^ 40) : Sm B A W H (call (.builtin "len") [c]) VR (.int m) H := by
  intro E Q s S q
  have done : ∀ {k : Nat} (t t' : Nat), k = m → Q (.int (k : Int) t) { s with toks := t' } := fun t t' e => by subst e; exact q _ _ W (Le.refl W) (S.tok _) (.int _ _)
  have lst : ∀ {xs : List V}, listOf B.K H v = some xs → xs.length = m → wpAny B.m A (call (.builtin "len") [c]) Q E s := by
    intro xs hl hx
    obtain ⟨a, cvs, k, rfl, g, z⟩ := listOf_sound O S rv hl
    have n1 : cvs.size = m := by rw [← hx, z.length, Array.length_toList]
    exact PyProof.Rows.len_list (items := cvs) ⟨_, g, rfl, k, rfl⟩ (by omega) (done _ _ n1)
  cases rv with
  | bytes b t =>
    simp only [lenV] at h; cases h
    exact len_bytes (by omega) (done _ _ rfl)
  | str x t =>
    simp only [lenV] at h; cases h
    exact P.len_str (by show ¬ ((x.cps.size : Nat) : Int) ≥ 2 ^ 63; omega) (done _ _ rfl)
  | @tup vs cvs a k e z =>
    simp only [lenV] at h; cases h
    have n1 : cvs.toArray.size = vs.length := by rw [List.size_toArray, z.length]
    exact PyProof.Rows.len_tuple (items := cvs.toArray) ⟨_, S.fro _ _ e, rfl, k, rfl⟩ (by omega) (done _ _ n1)
  | @ref i a e =>
    simp only [lenV] at h
    split at h
    · rename_i xs hl; cases h; exact lst hl rfl
    · cases h
  | stat e =>
    simp only [lenV] at h
    split at h
    · rename_i xs hl; cases h; exact lst hl rfl
    · cases h
  | _ => simp only [lenV] at h; cases h

theorem isinst_sound (O : B.Ok) {b : Bool} (rv : VR W v c) (ru : VR W u d) (h : isinst B.K H v u = some b) : Sm B A W H (call (.builtin "isinstance") [c, d]) VR (.bool b) H := by
  intro E Q s S q
  have done : ∀ {b' : Bool} (t' : Nat), b' = b → Q (.bool b') { s with toks := t' } := fun t' e => by subst e; exact q _ _ W (Le.refl W) (S.tok _) (.bool _)
  unfold isinst at h
  split at h
  · rename_i nm
    split at h
    · rename_i hn
      obtain rfl : nm = "bytes" := eq_of_beq hn
      cases ru
      split at h
      · cases h
        cases rv
        exact call_isinstance (isinstance_true (Tx := "bytes") F.isi_meta_bytes F.sub_bytes_bytes) ⟨rfl, done s.toks rfl⟩
      · cases h
    · cases h
  · rename_i C
    split at h
    · rename_i i
      split at h
      · rename_i D fs hi
        split at h
        · rename_i hCD
          subst hCD
          cases h
          cases rv with
          | @ref _ a e =>
            cases ru with
            | stat eC =>
              obtain ⟨d, es, m, e1, e2, e3, e4, I⟩ := inst_at S e hi
              exact isi_call (S.kin O) (t := .ref C) (fun M => I.type) (by unfold isIn; rw [beq_self_eq_true]; rfl) (by intro e; cases e) (done s.toks rfl)
        · cases h
      · cases h
    · cases h
  · cases h

theorem bGo_eq (xs : List Int) (x : Int) : ∀ m lo hi, bisectGo xs x m lo hi = bGo xs x m lo hi
  | 0, _, _ => rfl
  | m + 1, lo, hi => by
    unfold bisectGo bGo
    split
    · split <;> rename_i h
      · (try simp only [h]); split <;> exact bGo_eq xs x m _ _
      · first | rfl | simp only [h]
    · rfl
theorem ints_at : ∀ {xs : List V} {ns : List Int} {cs : List Value}, VRs W xs cs → intsOf xs = some ns → ns.length = cs.length ∧ ∀ (i : Nat) (y : Int), ns[i]? = some y → ∃ u, cs[i]? = some (.int y u)
  | _, ns, _, .nil, h => by cases h; exact ⟨rfl, fun i y e => by simp at e⟩
  | _, ns, _, .cons a r, h => by
    unfold intsOf at h
    split at h
    · cases ‹_ :: _ = []›
    · rename_i k r' e
      cases e
      split at h
      · rename_i l hl
        cases h
        cases a
        obtain ⟨h1, h2⟩ := ints_at r hl
        refine ⟨by simp [h1], fun i y e => ?_⟩
        cases i with
        | zero => simp at e; subst e; exact ⟨_, rfl⟩
        | succ i => simp at e; simpa using h2 i y e
      · cases h
    · cases h
theorem bisect_sound (O : B.Ok) {xs : List V} {ns : List Int} {x lo : Int} {m : Nat} {t t' : Tok} (ru : VR W u d) (hl : listOf B.K H u = some xs) (hn : intsOf xs = some ns) (h0 : 0 ≤ lo ∧ lo < 10000) (hz : ns.length < 10000) (h : bisectGo ns x 64 lo.toNat ns.length = some m) (hA : Rm (n + 1) A) :
    Sm B A W H (call (.builtin "_bisect.bisect_left") [d, .int x t, .int lo t']) VR (.int m) H := by
  intro E Q s S q
  obtain ⟨a, cvs, k, rfl, g, z⟩ := listOf_sound O S ru hl
  obtain ⟨z1, z2⟩ := ints_at z hn
  rw [bGo_eq] at h
  exact call_bisect g hz (by rw [z1, Array.length_toList]) (fun i y e => by simpa using z2 i y e) h0.1 h0.2 h fun t' j => q _ _ W (Le.refl W) (S.tok _) (.int _ _)

theorem bcall_sound (O : B.Ok) (hr : CallS B n r) (hA : Rm (n + 1) A) {id : String} {args : List V} {acs : List Value} (z : VRs W args acs) (h : bcall B.K r id args H = some (v, H')) : Sm B A W H (call (.builtin id) acs) VR v H' := by
  unfold bcall at h
  split at h
  · rename_i a
    split at h
    · rename_i hid
      obtain rfl : id = "len" := eq_of_beq hid
      cases z with
      | cons ra z =>
        cases z
        split at h
        · rename_i m hm
          split at h
          · rename_i hz
            cases h
            exact len_sound O ra hm hz
          · cases h
        · split at h
          · rename_i i
            split at h
            · rename_i C fs hi
              split at h
              · rename_i f hm
                split at h
                · rename_i k H1 hc
                  split at h
                  · rename_i hk
                    cases h
                    obtain ⟨hf, hfn, hif⟩ := methIn_of hm
                    cases ra with
                    | @ref _ a e =>
                      intro E Q s S q
                      obtain ⟨d, es, m, e1, e2, e3, e4, I⟩ := inst_at S e hi
                      refine len_inst (S.kin O) I hf hif ?_
                      refine (hr (kcs := []) hc hA.in1 (meth_vr O S hif) (.cons (.ref e) .nil) trivial).sm E _ s S fun c s' W' l S' rc => ?_
                      cases rc with
                      | int _ t =>
                        have : big = 2 ^ 62 := rfl
                        exact ⟨k, t, rfl, ⟨hk.1, by omega⟩, q _ _ W' l (S'.tok _) (.int _ _)⟩
                  · cases h
                · cases h
              · cases h
            · cases h
          · cases h
    · cases h
  · rename_i a b
    split at h
    · rename_i hid
      obtain rfl : id = "isinstance" := eq_of_beq hid
      cases z with
      | cons ra z =>
        cases z with
        | cons rb z =>
          cases z
          split at h
          · rename_i t ht
            cases h
            exact isinst_sound O ra rb ht
          · cases h
    · cases h
  · rename_i a b c'
    split at h
    · rename_i hid
      obtain rfl : id = "_bisect.bisect_left" := eq_of_beq hid
      cases z with
      | cons ra z =>
        cases z with
        | cons rb z =>
          cases z with
          | cons rc z =>
            cases z
            split at h
            · rename_i xs x lo hl
              split at h
              · rename_i ns hn
                split at h
                · rename_i hz
                  split at h
                  · rename_i m hm
                    cases h
                    cases rb
                    cases rc
                    exact bisect_sound O ra hl hn ⟨hz.1, hz.2.1⟩ hz.2.2 hm hA
                  · cases h
                · cases h
              · cases h
            · cases h
    · cases h
  · cases h
end
end Mini
namespace Mini
open PySem PySem.W PySem.W.X PySem.Calls PyProof.Rows Builtin

section
variable {B : Base} {A : Around} {W W' : OM} {H H' H'' : Hp} {env : Env} {sc : Scope} {ρ ρ' ρ'' φ : Loc} {s : Shared} {v u : V} {c d : Value} {n : Nat} {r : Rec} {α β γ δ : Type}

theorem push_rng {a b k : Int} {t t1 t2 : Tok} {Q : Value → Shared → Prop} (S : Sim B W H s) (tk : Nat) (q : ∀ c s' W', Le W W' → Sim B W' H s' → VR W' (.rng a b k) c → Q c s') :
    Q (.ref s.heap.objs.size) { s with heap := s.heap.push { cls := .type "range", data := .fields #[.int a t, .int b t1, .int k t2] }, toks := tk } :=
  q _ _ _ (le_put S.push_none) (S.push_fro _ rfl tk) (.rng (put_self _ _ _))

theorem ints_sound {W : OM} : ∀ {xs : List V} {cs : List Value} {ns : List Int}, VRs W xs cs → intsOf xs = some ns → IntsAre cs ns
  | _, _, ns, .nil, h => by cases h; exact .nil
  | _, _, ns, .cons a z, h => by
    unfold intsOf at h
    split at h
    · rename_i e; cases e
    · rename_i k r e
      cases e
      split at h
      · rename_i l hl
        cases h
        cases a
        exact .cons _ _ (ints_sound z hl)
      · cases h
    · cases h
theorem bytes_ints : ∀ {xs : List V} {l : List UInt8}, bytesOf xs = some l → ∃ ns, intsOf xs = some ns ∧ (∀ n ∈ ns, 0 ≤ n ∧ n < 256) ∧ l = ns.map fun n => n.toNat.toUInt8
  | [], l, h => by cases h; exact ⟨[], rfl, (by simp), rfl⟩
  | v :: r, l, h => by
    unfold bytesOf at h
    split at h
    · rename_i e; cases e
    · rename_i k r' e
      cases e
      split at h
      · rename_i hk
        split at h
        · rename_i l' hl
          cases h
          obtain ⟨ns, h1, h2, h3⟩ := bytes_ints hl
          refine ⟨k :: ns, by unfold intsOf; rw [h1], ?_, by rw [List.map_cons, h3]⟩
          intro n hn
          rcases List.mem_cons.mp hn with rfl | hn
          · exact hk
          · exact h2 n hn
        · cases h
      · cases h
    · cases h

theorem tcall_sound (O : B.Ok) (hA : A.handled = none) {t : String} {args : List V} {acs : List Value} (z : VRs W args acs) (h : tcall B.K t args H = some (v, H')) : Sm B A W H (call (.type t) acs) VR v H' := by
  unfold tcall at h
  split at h
  · rename_i a
    cases z with
    | cons ra z =>
      cases z
      split at h
      · rename_i ht
        obtain rfl : t = "range" := eq_of_beq ht
        split at h
        · cases h
          cases ra
          exact fun E Q s S q => call_range_1 (push_rng S _ q)
        · cases h
      · split at h
        · rename_i ht
          obtain rfl : t = "int" := eq_of_beq ht
          split at h
          · cases h
            cases ra
            exact fun E Q s S q => call_int_int (q _ _ W (Le.refl W) S (.int _ _))
          · split at h
            · rename_i x o k hd
              cases h
              cases ra
              unfold digitsOf at hd
              split at hd
              · cases hd
              · rename_i hc
                cases hd
                simp only [Bool.or_eq_true, not_or, Bool.not_eq_true, Bool.not_eq_false', decide_eq_false_iff_not] at hc
                obtain ⟨⟨h1, h2⟩, h3⟩ := hc
                have hl : x.length ≤ 640 := by show x.cps.size ≤ 640; rw [← Array.length_toList]; omega
                have hn : PySem.intText? x = some ((NumText.digitsVal x.cps.toList : Nat) : Int) := intText_digits (fun c hc => by
                  have := List.all_eq_true.mp h3 c hc
                  simpa using this) (by intro e; rw [e] at h1; simp at h1) (by omega)
                exact fun E Q s S q => KIN.call_text hn hl (q _ _ W (Le.refl W) (S.tok _) (.int _ _))
            · cases h
          · cases h
        · split at h
          · rename_i ht
            obtain rfl : t = "bytes" := eq_of_beq ht
            split at h
            · rename_i xs hl
              split at h
              · rename_i hz
                split at h
                · rename_i l hb
                  cases h
                  obtain ⟨ns, h1, h2, h3⟩ := bytes_ints hb
                  intro E Q s S q
                  obtain ⟨a', cvs, k, rfl, g, z⟩ := listOf_sound O S ra hl
                  refine call_bytes_ints (vs := cvs.toList) (ns := ns) ⟨_, g, rfl, k, by simp⟩ (ints_sound z h1) h2 (by rw [← z.length]; exact sz hz) hA fun h' t tk hk => ?_
                  have : byteArr ns = l.toArray := by rw [h3]; rfl
                  rw [this]
                  exact q _ _ W (Le.refl W) (S.grow (Le.refl W).live (fun _ _ e => e) (Nat.le_refl _) (fun _ _ _ e => e) (fun b x e => by
                    have : ∃ o, s.heap.get? b = some o := by
                      cases x with
                      | fro o => exact ⟨o, S.fro b o e⟩
                      | prv o => exact ⟨o, S.prv b o e⟩
                      | obj i => obtain ⟨o, _, c⟩ := S.obj b i e; exact c.there
                      | dct i => exact S.dct b i e
                      | tab ps => obtain ⟨_, more, q, _⟩ := S.tab b ps e; exact ⟨_, q⟩
                    obtain ⟨o, e'⟩ := this
                    exact .inr (by rw [e']; exact hk b o e')) (fun b x e => .inl e) (fun b o e _ => by
                      rw [S.prv b o e]; exact hk b o (S.prv b o e)) rfl S.gens) (.bytes _ _)
                · cases h
              · cases h
            · cases h
          · cases h
  · rename_i a b
    cases z with
    | cons ra z =>
      cases z with
      | cons rb z =>
        cases z
        split at h
        · rename_i ht
          obtain rfl : t = "range" := eq_of_beq ht
          split at h
          · cases h
            cases ra; cases rb
            exact fun E Q s S q => call_range_2 (push_rng S _ q)
          · cases h
        · cases h
  · rename_i a b c'
    cases z with
    | cons ra z =>
      cases z with
      | cons rb z =>
        cases z with
        | cons rc z =>
          cases z
          split at h
          · rename_i ht
            obtain rfl : t = "range" := eq_of_beq ht
            split at h
            · split at h
              · cases h
              · rename_i hc
                cases h
                cases ra; cases rb; cases rc
                exact fun E Q s S q => call_range_3 (by omega) (push_rng S _ q) (.inl (PyProof.noPylong_small (by omega)))
            · cases h
          · cases h
  · cases h

theorem isdigit_sound {b : Array UInt8} {t : Tok} : Sm B A W H (call (.builtin "bytes.isdigit") [.bytes b t]) VR (.bool (isDigits b.toList)) H := by
  intro E Q s S q
  refine call_isdigit (q _ _ W (Le.refl W) S ?_)
  have : Bytes.allOf Bytes.isDigit b.toList = isDigits b.toList := rfl
  rw [this]
  exact .bool _
theorem findB_eq (m : Nat) : ∀ (l : List UInt8) (j : Nat), findB m j l = findI (((List.range l.length).find? fun i => (l[i]?.map UInt8.toNat) == some m).map (· + j))
  | [], j => rfl
  | u :: r, j => by
    rw [List.length_cons, List.range_succ_eq_map, List.find?_cons]
    unfold findB
    by_cases hu : u.toNat = m
    · simp [hu, findI]
    · rw [if_neg hu, findB_eq m r (j + 1)]
      have : ((((u :: r)[0]?).map UInt8.toNat) == some m) = false := by simpa using hu
      rw [this]
      simp only [List.find?_map]
      congr 1
      have e : ((fun i => ((u :: r)[i]?.map UInt8.toNat) == some m) ∘ Nat.succ) = fun i => (r[i]?.map UInt8.toNat) == some m := by funext i; simp
      rw [e]
      cases (List.range r.length).find? fun i => (r[i]?.map UInt8.toNat) == some m with
      | none => rfl
      | some i => simp; omega
theorem find_congr {p q : Nat → Bool} : ∀ {l : List Nat}, (∀ i ∈ l, p i = q i) → l.find? p = l.find? q
  | [], _ => rfl
  | x :: r, h => by
    rw [List.find?_cons, List.find?_cons, h x (by simp), find_congr fun i hi => h i (by simp [hi])]
theorem findO_eq {b k : Array UInt8} (hk : k.size = 1) : findI (findO b k) = findB (k.getD 0 0).toNat 0 b.toList := by
  rw [findB_eq]
  obtain ⟨l⟩ := b
  obtain ⟨q⟩ := k
  match q, hk with
  | [c], _ =>
    unfold findO
    congr 1
    by_cases hl : l = []
    · subst hl; rfl
    · have : 0 < l.length := List.length_pos_iff.mpr hl
      rw [if_neg (by simp; omega)]
      show Bytes.find? _ _ _ _ = _
      unfold Bytes.find?
      have e1 : (min ((l.toArray.size : Nat) : Int) (l.toArray.size : Nat)).toNat = l.length := by simp
      have e2 : ((0 : Int).toNat) = 0 := rfl
      dsimp only
      rw [e1, e2]
      have e3 : l.length + 1 - (0 + [c].toArray.size) = l.length := by simp
      rw [e3]
      simp only [Nat.add_zero, List.map_id', Option.map_id']
      refine find_congr fun i hi => ?_
      have hi : i < l.length := by simpa using hi
      have e4 : l.toArray.extract i (i + [c].toArray.size) = #[l[i]] := by
        apply Array.ext'
        rw [Array.toList_extract]
        rw [List.extract_eq_take_drop]
        show List.take (i + 1 - i) (List.drop i l) = [l[i]]
        rw [Nat.add_sub_cancel_left, List.drop_eq_getElem_cons hi]
        rfl
      rw [e4, List.getElem?_eq_getElem hi]
      show (#[l[i]] == #[c]) = (some l[i].toNat == some c.toNat)
      rw [Bool.eq_iff_iff]
      simp [UInt8.toNat_inj]
theorem find_sound {b k : Array UInt8} {t t' : Tok} (hk : k.size = 1) (hb : b.size < 1000) : Sm B A W H (call (.builtin "bytes.find") [.bytes b t, .bytes k t']) VR (.int (findB (k.getD 0 0).toNat 0 b.toList)) H := by
  intro E Q s S q
  refine call_find (q _ _ W (Le.refl W) (S.tok _) ?_)
  rw [findO_eq hk]
  exact .int _ _
theorem decode_sound {b : Array UInt8} {t t' : Tok} (he : b.isEmpty = false) (hb : b.size ≤ 3) (ha : b.toList.all (fun u => u.toNat < 128) = true) : Sm B A W H (call (.builtin "bytes.decode") [.bytes b t, .str "ascii" t']) VR (.str ⟨b.map UInt8.toNat⟩) H := by
  intro E Q s S q
  exact call_decode he hb ha fun t' k => q _ _ W (Le.refl W) (S.tok _) (.str _ _)

theorem mcall_sound (O : B.Ok) {id : String} {args : List V} {acs : List Value} (z : VRs W args acs) (h : mcall B.K id args H = some (v, H')) : Sm B A W H (call (.builtin id) acs) VR v H' := by
  unfold mcall at h
  split at h
  · rename_i i x
    split at h
    · rename_i hid
      obtain rfl : id = "list.append" := eq_of_beq hid
      cases z with
      | cons ra z =>
        cases z with
        | cons rb z =>
          cases z
          split at h
          · rename_i xs hi
            split at h
            · rename_i hz
              cases h
              cases ra with
              | @ref _ l e =>
                intro E Q s S q
                obtain ⟨o, h1, cc⟩ := S.obj _ _ e
                rw [hi] at h1; cases h1
                obtain ⟨cvs, k, g, z⟩ := cc
                refine call_meets F.slot_list_append ⟨_, g, rfl⟩ F.entry_list_append (F.args_list_append_2 _ _) (list_append l cvs k _ (by rw [← Array.length_toList, ← z.length]; exact sz hz)) ⟨g, ?_⟩
                refine q _ _ W (Le.refl W) (S.change_list (n' := if (cvs.push _).size == cvs.size then k else k + 1) (cvs' := cvs.push _) e hi sameBut_update (Heap.get?_update_self _ g rfl) ?_ _) .none
                rw [Array.toList_push]
                exact z.append (.cons rb .nil)
            · cases h
          · cases h
    · cases h
  · rename_i b
    split at h
    · rename_i hid
      obtain rfl : id = "bytes.isdigit" := eq_of_beq hid
      cases h
      cases z with
      | cons ra z => cases z; cases ra; exact isdigit_sound
    · cases h
  · rename_i b k
    split at h
    · rename_i hid
      obtain rfl : id = "bytes.find" := eq_of_beq hid
      split at h
      · rename_i hk
        cases h
        cases z with
        | cons ra z => cases z with
          | cons rb z => cases z; cases ra; cases rb; exact find_sound hk.1 hk.2
      · cases h
    · cases h
  · rename_i b e
    split at h
    · rename_i hid
      obtain rfl : id = "bytes.decode" := eq_of_beq hid
      split at h
      · rename_i hk
        cases h
        simp only [Bool.and_eq_true, beq_iff_eq, Bool.not_eq_true', decide_eq_true_eq] at hk
        obtain ⟨⟨⟨rfl, h1⟩, h2⟩, h3⟩ := hk
        cases z with
        | cons ra z => cases z with
          | cons rb z => cases z; cases ra; cases rb; exact decode_sound h1 h2 (by simpa using h3)
      · cases h
    · cases h
  · cases h

/-- where a built-in type's method stands -/
theorem bm_sound (O : B.Ok) {name : Str} {id : String} {b : Bool} {pl : Sem Bool} (rv : VR W v c) (h : bmOf H v name = some (id, b)) : b = true ∧ Sm B A W H (getMethod c name pl) (fun _ (_ : Unit) x => x = (.builtin id, [c])) () H := by
  unfold bmOf at h
  split at h
  · rename_i i
    split at h
    · rename_i xs hi
      split at h
      · rename_i hn
        cases h
        obtain rfl : name = ("append" : Str) := eq_of_beq hn
        refine ⟨rfl, fun E Q s S q => ?_⟩
        obtain ⟨a, cvs, k, rfl, g, z⟩ := listOf_sound O S rv (xs := xs) (by simp only [listOf, hi])
        exact getMethod_builtin ⟨_, g, rfl⟩ F.plainAttrs_list F.slot_list_append F.type_list_append (fun a e => by cases e; exact ⟨_, g, rfl⟩) (q _ _ W (Le.refl W) S rfl)
      · cases h
    · cases h
  · cases rv
    split at h
    · rename_i hn
      cases h
      obtain rfl : name = ("isdigit" : Str) := eq_of_beq hn
      exact ⟨rfl, fun E Q s S q => meth_isdigit (q _ _ W (Le.refl W) S rfl)⟩
    · split at h
      · rename_i hn
        cases h
        obtain rfl : name = ("find" : Str) := eq_of_beq hn
        exact ⟨rfl, fun E Q s S q => meth_find (q _ _ W (Le.refl W) S rfl)⟩
      · split at h
        · rename_i hn
          cases h
          obtain rfl : name = ("decode" : Str) := eq_of_beq hn
          exact ⟨rfl, fun E Q s S q => KBd.method (q _ _ W (Le.refl W) S rfl)⟩
        · cases h
  · cases h
end
end Mini
namespace Mini
open PySem PySem.W PySem.W.X PySem.Calls PyProof.Rows Builtin

theorem kw_loop {names : List Str} {e : List (Str × Value)} (f : Str × Value → List (Str × Value) × List (Str × Value) → Sem (ForInStep (List (Str × Value) × List (Str × Value))))
    (hf : ∀ x st, names.contains x.1 = true → (List.lookup x.1 st.1).isSome = false → f x st = pure (.yield (st.1 ++ [(x.1, x.2)], st.2))) :
    ∀ (kw sl sl' : List (Str × Value)), addKw names kw sl = some sl' → forIn kw (sl, e) f = pure (sl', e)
  | [], sl, sl', h => by cases h; rw [List.forIn_nil]
  | (k, v) :: r, sl, sl', h => by
    unfold addKw at h
    split at h
    · rename_i h1 h2
      rw [List.forIn_cons, hf (k, v) (sl, e) h1 (by show (List.lookup k sl).isSome = false; rw [h2]; rfl), pure_bind]
      exact kw_loop f hf r _ sl' h
    · cases h
theorem df_loop (f : Str × Value → List (Str × Value) → Sem (ForInStep (List (Str × Value))))
    (hf : ∀ x st, f x st = if (List.lookup x.1 st).isNone = true then pure (.yield (st ++ [(x.1, x.2)])) else pure (.yield st)) :
    ∀ (l sl : List (Str × Value)), forIn l sl f = pure (addDf l sl)
  | [], sl => by rw [List.forIn_nil]; rfl
  | (k, v) :: r, sl => by
    rw [List.forIn_cons, hf]
    unfold addDf
    cases h : List.lookup k sl with
    | none => simp only [Option.isNone_none, if_true, pure_bind]; exact df_loop f hf r _
    | some x => simp only [Option.isNone_some, Bool.false_eq_true, if_false, pure_bind]; exact df_loop f hf r _

theorem binds_of {s : Shared} {fd : FuncData} {pos ds : List Value} {kw bs : List (Str × Value)} (hv : fd.params.vararg = none) (hk : fd.params.kwarg = none) (ho : fd.params.kwonlyargs = []) (hp : fd.params.posonlyargs = [])
    (hd : ∀ (M : Model) (A : Around) (E : Value → Shared → Prop) (Q : Option (Array Value) → Shared → Prop), (∀ o, (o.getD #[]).toList = ds → Q o s) → wpAny M A (seqItems? fd.defaults) Q E s)
    (hb : bindG (fd.params.args.map (·.arg)) ds pos kw = some bs) : BindsTo s fd ⟨pos, kw⟩ bs := by
  intro M A E Q hq
  unfold bindG at hb
  split at hb
  · rename_i hlen
    split at hb
    · rename_i sl hsl
      split at hb
      · rename_i hall
        cases hb
        unfold bindArgs
        simp only [hv, hk, ho, hp, List.map_nil, List.nil_append, List.append_nil, Option.isNone_none, Bool.and_true, Option.isSome_none, List.contains_nil, Bool.or_false, Bool.false_eq_true, if_false, List.forIn_nil, pure_bind]
        rw [kw_loop (names := fd.params.args.map (·.arg)) _ (fun x st h1 h2 => by rw [if_pos h1, if_neg (by rw [h2]; exact Bool.false_ne_true)]) kw _ sl hsl, pure_bind]
        refine wpAny_bind (hd M A _ _ fun o hods => ?_)
        rw [hods]
        rw [if_neg (by simpa using hlen.1)]
        have hdrop : ds.drop (ds.length - (fd.params.args.map (·.arg)).length) = ds := by
          rw [Nat.sub_eq_zero_of_le hlen.2, List.drop_zero]
        simp only [hdrop]
        have hmiss : ((fd.params.args.map (·.arg)).take ((fd.params.args.map (·.arg)).length - ds.length)).filter (fun n => (List.lookup n sl).isNone) = [] := by
          rw [List.filter_eq_nil_iff]
          intro n hn
          have := List.all_eq_true.mp hall n hn
          cases hl : List.lookup n sl with
          | none => rw [hl] at this; cases this
          | some x => simp
        simp only [hmiss, List.isEmpty_nil, Bool.not_true, Bool.false_eq_true, if_false]
        rw [df_loop _ (fun x st => rfl)]
        simp only [pure_bind]
        exact wpAny_pure hq
      · cases hb
    · cases hb
  · cases hb

section
variable {W : OM} {α : Type}
theorem KwR.lookup (x : Str) : ∀ {a : List (Str × V)} {b : List (Str × Value)}, KwR W a b → match a.lookup x with
    | some v => ∃ c, b.lookup x = some c ∧ VR W v c
    | none => b.lookup x = none
  | [], [], _ => rfl
  | (y, v) :: a, (z, c) :: b, ⟨e, h, r⟩ => by
    subst e
    have ih := KwR.lookup x r
    rw [List.lookup_cons, List.lookup_cons]
    cases h' : x == y with
    | true => exact ⟨c, rfl, h⟩
    | false => exact ih
  | [], _ :: _, h => h.elim
  | _ :: _, [], h => h.elim
theorem KwR.le {W W' : OM} (l : Le W W') : ∀ {a : List (Str × V)} {b : List (Str × Value)}, KwR W a b → KwR W' a b
  | [], [], _ => trivial
  | (y, v) :: a, (z, c) :: b, ⟨e, h, q⟩ => ⟨e, h.le l, KwR.le l q⟩
  | [], _ :: _, h => h.elim
  | _ :: _, [], h => h.elim
theorem KwR.snoc {x : Str} {v : V} {c : Value} (r : VR W v c) : ∀ {a : List (Str × V)} {b : List (Str × Value)}, KwR W a b → KwR W (a ++ [(x, v)]) (b ++ [(x, c)])
  | [], [], _ => ⟨rfl, r, trivial⟩
  | (y, v) :: a, (z, c) :: b, ⟨e, h, q⟩ => ⟨e, h, KwR.snoc r q⟩
  | [], _ :: _, h => h.elim
  | _ :: _, [], h => h.elim
theorem KwR.zip : ∀ {ns : List Str} {vs : List V} {cs : List Value}, VRs W vs cs → KwR W (ns.zip vs) (ns.zip cs)
  | [], _, _, _ => by simp [KwR]
  | _ :: _, _, _, .nil => by simp [KwR]
  | n :: ns, _, _, .cons a z => ⟨rfl, a, KwR.zip z⟩
theorem addKw_rel {names : List Str} : ∀ {kw : List (Str × V)} {kc : List (Str × Value)} {a a' : List (Str × V)} {b : List (Str × Value)}, KwR W kw kc → KwR W a b → addKw names kw a = some a' → ∃ b', addKw names kc b = some b' ∧ KwR W a' b'
  | [], [], a, a', b, _, h, e => by cases e; exact ⟨b, rfl, h⟩
  | (x, v) :: kw, (y, c) :: kc, a, a', b, ⟨e1, h1, h2⟩, h, e => by
    subst e1
    unfold addKw at e
    have hl := h.lookup x
    split at e
    · rename_i g1 g2
      rw [g2] at hl
      obtain ⟨b', e', r'⟩ := addKw_rel h2 (h.snoc h1) e
      exact ⟨b', by unfold addKw; rw [g1, hl]; exact e', r'⟩
    · cases e
  | [], _ :: _, _, _, _, h, _, _ => h.elim
  | _ :: _, [], _, _, _, h, _, _ => h.elim
theorem addDf_rel : ∀ {l : List (Str × V)} {lc : List (Str × Value)} {a : List (Str × V)} {b : List (Str × Value)}, KwR W l lc → KwR W a b → KwR W (addDf l a) (addDf lc b)
  | [], [], a, b, _, h => h
  | (x, v) :: l, (y, c) :: lc, a, b, ⟨e1, h1, h2⟩, h => by
    subst e1
    have hl := h.lookup x
    unfold addDf
    cases g : a.lookup x with
    | some w => rw [g] at hl; obtain ⟨d, e, _⟩ := hl; rw [e]; exact addDf_rel h2 h
    | none => rw [g] at hl; rw [hl]; exact addDf_rel h2 (h.snoc h1)
  | [], _ :: _, _, _, h, _ => h.elim
  | _ :: _, [], _, _, h, _ => h.elim
theorem filt_rel {a : List (Str × V)} {b : List (Str × Value)} (h : KwR W a b) : ∀ ns : List Str, KwR W (ns.filterMap fun n => (a.lookup n).map fun v => (n, v)) (ns.filterMap fun n => (b.lookup n).map fun v => (n, v))
  | [] => trivial
  | n :: ns => by
    have hl := h.lookup n
    rw [List.filterMap_cons, List.filterMap_cons]
    cases g : a.lookup n with
    | some w => rw [g] at hl; obtain ⟨d, e, r⟩ := hl; rw [e]; exact ⟨rfl, r, filt_rel h ns⟩
    | none => rw [g] at hl; rw [hl]; exact filt_rel h ns
theorem bindG_rel {names : List Str} {ds args : List V} {dc ac : List Value} {kw ρ : List (Str × V)} {kc : List (Str × Value)} (hd : VRs W ds dc) (ha : VRs W args ac) (hk : KwR W kw kc) (h : bindG names ds args kw = some ρ) : ∃ bs, bindG names dc ac kc = some bs ∧ KwR W ρ bs := by
  unfold bindG at h
  split at h
  · rename_i hlen
    split at h
    · rename_i sl hsl
      split at h
      · rename_i hall
        cases h
        obtain ⟨b', e', r'⟩ := addKw_rel hk (KwR.zip ha) hsl
        refine ⟨names.filterMap fun n => ((addDf ((names.drop (names.length - dc.length)).zip dc) b').lookup n).map fun v => (n, v), ?_, ?_⟩
        · unfold bindG
          rw [if_pos (by rw [← ha.length, ← hd.length]; exact hlen), e']
          dsimp only
          rw [if_pos]
          rw [List.all_eq_true] at hall ⊢
          intro n hn
          have := hall n (by rw [hd.length]; exact hn)
          have hl := r'.lookup n
          cases g : List.lookup n sl with
          | none => rw [g] at this; cases this
          | some w => rw [g] at hl; obtain ⟨d, e, _⟩ := hl; rw [e]; rfl
        · rw [← hd.length]
          exact filt_rel (addDf_rel (KwR.zip hd) r') names
      · cases h
    · cases h
  · cases h
end
end Mini
namespace Mini
open PySem PySem.W PySem.W.X PySem.Calls PyProof.Rows Builtin

section
variable {B : Base} {A : Around} {W W' : OM} {H H' H'' : Hp} {env : Env} {sc : Scope} {ρ ρ' ρ'' φ : Loc} {s : Shared} {v u : V} {c d : Value} {n : Nat} {r : Rec} {α β γ δ : Type}

theorem Sim.there (S : Sim B W H s) {b : Addr} {x : Own} (e : W b = some x) : ∃ o, s.heap.get? b = some o := by
  cases x with
  | fro o => exact ⟨o, S.fro b o e⟩
  | prv o => exact ⟨o, S.prv b o e⟩
  | obj i => obtain ⟨o, _, c⟩ := S.obj b i e; exact c.there
  | dct i => exact S.dct b i e
  | tab ps => obtain ⟨_, more, q, _⟩ := S.tab b ps e; exact ⟨_, q⟩

/-- new private objects, all else as it stood -/
def own (W : OM) (h : Heap) (X : List Addr) : OM := fun b => if b ∈ X then (h.get? b).map .prv else W b
theorem own_in {h : Heap} {X : List Addr} {b : Addr} {o : Obj} (hb : b ∈ X) (e : h.get? b = some o) : own W h X b = some (.prv o) := by
  unfold own; rw [if_pos hb, e]; rfl
theorem le_own {h : Heap} {X : List Addr} (hX : ∀ a ∈ X, W a = none) : Le W (own W h X) := fun a x e => by
  have : a ∉ X := fun q => by rw [hX a q] at e; cases e
  unfold own; rw [if_neg this]; exact e
theorem Sim.owned (S : Sim B W H s) {s' : Shared} {X : List Addr} (hX : ∀ a ∈ X, W a = none) (hk : ∀ b o, s.heap.get? b = some o → s'.heap.get? b = some o) (ho : s'.os = s.os) (hg : s'.gens = s.gens) : Sim B (own W s'.heap X) H s' := by
  refine S.grow (le_own hX).live (fun _ _ e => e) (Nat.le_refl _) (fun a x _ e => le_own hX a x e) (fun b x e => ?_) (fun b x e => ?_) (fun b o e _ => ?_) ho (hg ▸ S.gens)
  · obtain ⟨o, e'⟩ := S.there e
    exact .inr (by rw [e']; exact hk b o e')
  · unfold own at e
    split at e
    · obtain ⟨o, h1, rfl⟩ := Option.map_eq_some_iff.mp e
      exact .inr h1
    · exact .inl e
  · rw [S.prv b o e]; exact hk b o (S.prv b o e)

theorem nodup_notin : ∀ {l : List Str}, nodupS l = true → l.Nodup
  | [], _ => List.nodup_nil
  | x :: l, h => by
    unfold nodupS at h
    obtain ⟨a, b⟩ := Bool.and_eq_true_iff.mp h
    exact List.nodup_cons.mpr ⟨by simpa using a, nodup_notin b⟩
theorem lookup_none {α : Type} {x : Str} : ∀ {l : List (Str × α)}, x ∉ l.map (·.1) → l.lookup x = none
  | [], _ => rfl
  | (y, v) :: l, h => by
    rw [List.lookup_cons]
    have : (x == y) = false := by
      rw [beq_eq_false_iff_ne]; exact fun e => h (by simp [e])
    rw [this]
    exact lookup_none fun q => h (by simp [q])
theorem bind_out (kind : Str → Option NameKind) {x : Str} : ∀ {bs : List (Str × Value)} {m : Str → Option Value}, x ∉ bs.map (·.1) → bindL kind bs m x = m x ∧ bindC kind bs m x = m x
  | [], m, _ => ⟨rfl, rfl⟩
  | (y, v) :: bs, m, h => by
    have hy : x ≠ y := fun e => h (by simp [e])
    have hr : x ∉ bs.map (·.1) := fun q => h (by simp [q])
    unfold bindL bindC
    constructor
    · rw [(bind_out kind hr).1]; split <;> simp [hy]
    · rw [(bind_out kind hr).2]; split <;> simp [hy]
theorem bind_in (kind : Str → Option NameKind) {x : Str} : ∀ {bs : List (Str × Value)} {m : Str → Option Value} {c : Value}, (bs.map (·.1)).Nodup → bs.lookup x = some c →
    (kind x = some .local → bindL kind bs m x = some c) ∧ (kind x ≠ some .local → bindC kind bs m x = some c)
  | [], m, c, _, h => by cases h
  | (y, v) :: bs, m, c, nd, h => by
    rw [List.map_cons, List.nodup_cons] at nd
    rw [List.lookup_cons] at h
    unfold bindL bindC
    cases hxy : x == y with
    | true =>
      rw [hxy] at h
      cases h
      obtain rfl : x = y := eq_of_beq hxy
      constructor
      · intro hk
        rw [(bind_out kind nd.1).1, if_pos hk]; simp
      · intro hk
        rw [(bind_out kind nd.1).2, if_neg hk]; simp
    | false =>
      rw [hxy] at h
      exact ⟨fun hk => (bind_in kind nd.2 h).1 hk, fun hk => (bind_in kind nd.2 h).2 hk⟩
theorem KwR.names : ∀ {a : List (Str × V)} {b : List (Str × Value)}, KwR W a b → a.map (·.1) = b.map (·.1)
  | [], [], _ => rfl
  | (x, v) :: a, (y, c) :: b, ⟨e, _, r⟩ => by rw [List.map_cons, List.map_cons, e, KwR.names r]
  | [], _ :: _, h => h.elim
  | _ :: _, [], h => h.elim

theorem dflt_sound (O : B.Ok) (S : Sim B W H s) {dV : Value} {ds : List V} (h : dfltsOf B.K dV = some ds) : ∃ dc, VRs W ds dc ∧ ∀ (M : Model) (A : Around) (E : Value → Shared → Prop) (Q : Option (Array Value) → Shared → Prop), (∀ o, (o.getD #[]).toList = dc → Q o s) → wpAny M A (seqItems? dV) Q E s := by
  unfold dfltsOf at h
  split at h
  · cases h
    exact ⟨[], .nil, fun M A E Q q => wpAny_pure (q none rfl)⟩
  · split at h
    · rename_i a o ho
      split at h
      · rename_i xs hx
        obtain ⟨k, rfl⟩ := asTup_eq hx
        exact ⟨xs, mapO_VRs (ofVal_VR (S.kf O) OV) h, fun M A E Q q => wpAny_seqItems (S.kin O _ _ ho) rfl (q _ (by simp))⟩
      · cases h
    · cases h
  · cases h

/-- the frame of a call -/
theorem frame_sound (O : B.Ok) (S : Sim B W H s) {fd : FuncData} {bs : List (Str × Value)} (hk : fd.scope.kind = .function) (hg : fd.globals = mainGlobals) (hb : fd.builtins = builtinsNs) (kr : KwR W ρ bs) (hl : allLocal fd.scope ρ = true) (nd : nodupS (ρ.map (·.1)) = true)
    {qual : Str} {func : Option Addr} {code : Value} {s' : Shared} {env' : Env} (hcv : CodeV W code) (he : env' = newEnv fd.scope s.heap.objs.size mainGlobals (cellsFrom (s.heap.objs.size + 1) fd.scope.names []) qual func code none builtinsNs)
    (x : InCallC s env'.locals (bindL env'.kindOf bs fun _ => none) env'.cells (bindC env'.kindOf bs fun _ => none) s') :
    ∃ W', Le W W' ∧ Sim B W' H s' ∧ FrameOk W' env' fd.scope ρ [] ∧ ∀ a, mine env' fd.scope a → W a = none := by
  have eL : env'.locals = s.heap.objs.size := by rw [he]; rfl
  have eC : env'.cells = cellsFrom (s.heap.objs.size + 1) fd.scope.names [] := by rw [he]; rfl
  have eK : ∀ y, env'.kindOf y = fd.scope.names.lookup y := fun y => by rw [he]; rfl
  obtain ⟨h', tk, hs'⟩ := x.toInCall.same
  have hX : ∀ a ∈ env'.locals :: env'.cells.map (·.2), W a = none := by
    intro a ha
    rcases List.mem_cons.mp ha with rfl | ha
    · rw [eL]; exact S.push_none
    · obtain ⟨⟨y, c⟩, hm, rfl⟩ := List.mem_map.mp ha
      have := x.above y c hm
      rw [eL] at this
      exact S.fresh (Nat.le_of_lt this)
  have hcode : code = env'.code := by rw [he]; rfl
  have nb : (bs.map (·.1)).Nodup := kr.names ▸ nodup_notin nd
  refine ⟨own W s'.heap (env'.locals :: env'.cells.map (·.2)), le_own hX, S.owned hX x.toInCall.keep (by rw [hs']) (by rw [hs']), ⟨hk, by rw [he]; exact hk, by rw [he]; rfl, by rw [he]; rfl, fun y k hy => ?_, fun y hy => (eK y).symm.trans hy, hcode ▸ hcv.live (le_own hX).live, ?_, fun y hy => ?_, fun y z c hy hz h1 h2 => ?_, fun y w _ hw => by cases hw⟩, fun a ha => ?_⟩
  · cases k <;> first | exact .inl ((eK y).trans hy) | exact (eK y).trans hy
  · obtain ⟨o, es, ep, h1, h2, h3, h4⟩ := x.toInCall.ns
    refine ⟨o, es, ep, own_in (by simp) h1, h2, h3, fun y w hy hw => ?_⟩
    have hl := kr.lookup y
    rw [hw] at hl
    obtain ⟨c, e1, e2⟩ := hl
    refine ⟨c, ?_, e2.le (le_own hX)⟩
    rw [h4 y]
    exact (bind_in _ nb e1).1 ((eK y).trans hy)
  · obtain ⟨c, hc⟩ := Option.isSome_iff_exists.mp (cellsFrom_some fd.scope.names (s.heap.objs.size + 1) [] (.inl hy))
    rw [← eC] at hc
    obtain ⟨o, h1, h2⟩ := x.cell y c hc
    have hm := mem_of_lookup hc
    refine ⟨c, o, _, hc, own_in (by simp; exact .inr ⟨y, hm⟩) h1, h2, Nat.ne_of_gt (x.above y c hm), fun w hw => ?_⟩
    have hl := kr.lookup y
    rw [hw] at hl
    obtain ⟨cv, e1, e2⟩ := hl
    exact ⟨cv, (bind_in _ nb e1).2 (by rw [eK, hy]; intro e; cases e), e2.le (le_own hX)⟩
  · exact name_of_addr x.apart (mem_of_lookup h1) (mem_of_lookup h2)
  · rcases ha with rfl | ⟨y, hy, hc⟩
    · exact hX _ (by simp)
    · exact hX _ (by simp; exact .inr ⟨y, mem_of_lookup hc⟩)

theorem le_call {W W₁ W₂ : OM} {P : Addr → Prop} (l : Le W W₁) (hP : ∀ a, P a → W a = none) (l' : LeX P W₁ W₂) : Le W W₂ := fun a x e =>
  (l' a x (l a x e)).resolve_left fun q => by rw [hP a q.2] at e; cases e

theorem callFn_sound (O : B.Ok) (hr : Snd B n r) (hA : Rm (n + 1) A) {a : Addr} {oc : Value} {od : Option Addr} {fd : FuncData} {sl : Array (Option Value)} (ho : B.K.lookup a = some ⟨oc, od, .func fd, sl⟩) {args : List V} {kw : List (Str × V)} {acs : List Value} {kcs : List (Str × Value)}
    (h : callFn B.K r fd args kw H = some (v, H')) (za : VRs W args acs) (zk : KwR W kw kcs) : Cd B A W H (.call (.ref a) ⟨acs, kcs⟩) v H' := by
  intro R s S q
  unfold callFn at h
  split at h
  · rename_i hok
    simp only [fnOk, Bool.and_eq_true, beq_iff_eq, Bool.not_eq_true', List.isEmpty_iff] at hok
    obtain ⟨⟨⟨⟨⟨⟨hk, hgen⟩, hco⟩, hclo⟩, hglob⟩, hbui⟩, hcode⟩ := hok
    split at h
    · rename_i b ρ hbody hbinds
      split at h
      · rename_i hloc
        obtain ⟨hloc, nd⟩ := Bool.and_eq_true_iff.mp hloc
        unfold binds at hbinds
        split at hbinds
        · rename_i hps
          simp only [Bool.and_eq_true, Option.isNone_iff_eq_none, List.isEmpty_iff] at hps
          obtain ⟨⟨⟨⟨h1, h2⟩, h3⟩, h4⟩, h5⟩ := hps
          split at hbinds
          · rename_i ds hds
            obtain ⟨dc, zd, hd⟩ := dflt_sound O S hds
            obtain ⟨bs, hbs, kr⟩ := bindG_rel zd za zk hbinds
            have hdep : A.depth < recursionLimit := by have := hA.depth; show A.depth < 1000; omega
            refine codeAny_call_function hdep (S.kin O _ _ ho) rfl hco hgen hbody (codeRec_of (S.kin O) hcode) (binds_of h1 h2 h3 h4 hd hbs _ _ _ _ ?_)
            rw [hclo]
            refine wpAny_newFunctionEnv_cells hk (fun y hy => ?_) fun env' he s1 x1 => ?_
            · have hm : y.1 ∈ ρ.map (·.1) := by rw [kr.names]; exact List.mem_map_of_mem hy
              obtain ⟨p, hp, hpe⟩ := List.mem_map.mp hm
              have := List.all_eq_true.mp hloc p hp
              rw [hpe] at this
              cases hl : fd.scope.names.lookup y.1 with
              | none => rw [hl] at this; cases this
              | some k =>
                rw [hl] at this
                cases k <;> first | exact .inl rfl | exact .inr ⟨rfl, cellsFrom_some _ _ _ (.inl hl)⟩ | cases this
            · rw [hglob, hbui] at he
              have hcv : CodeV W fd.code := by
                obtain ⟨c, e1⟩ : ∃ c, fd.code = .ref c := by
                  unfold codeIn at hcode
                  split at hcode
                  · rename_i c hc; exact ⟨c, hc⟩
                  · cases hcode
                obtain ⟨o', P, ps, e2, e3, e4⟩ := O.codes _ _ _ _ ho rfl e1
                exact ⟨c, o', P, ps, e1, S.kfro O e2, e3, (S.ctab _ _ e4).2⟩
              obtain ⟨W1, l1, S1, F1, hm⟩ := frame_sound O S hk hglob hbui kr hloc nd hcv he x1
              refine ⟨S1.nolimit O, codeAny_func ?_⟩
              split at h
              · rename_i w ρ2 H2 hex
                cases h
                refine hr.ex hex hA.deeper F1 _ _ s1 S1 fun f s2 W2 l2 S2 F2 fr => ?_
                obtain ⟨c, rfl, rc⟩ := fr
                exact q c s2 W2 (le_call l1 hm l2) S2 rc
              · rename_i ρ2 H2 hex
                cases h
                refine hr.ex hex hA.deeper F1 _ _ s1 S1 fun f s2 W2 l2 S2 F2 fr => ?_
                cases fr
                exact q _ s2 W2 (le_call l1 hm l2) S2 .none
              · cases h
          · cases hbinds
        · cases hbinds
      · cases h
    · cases h
  · cases h
end
end Mini
namespace Mini
open PySem PySem.W PySem.W.X PySem.Calls PyProof.Rows Builtin

section
variable {B : Base} {A : Around} {W W' : OM} {H H' H'' : Hp} {env : Env} {sc : Scope} {ρ ρ' ρ'' φ : Loc} {s : Shared} {v u : V} {c d : Value} {n : Nat} {r : Rec} {α β γ δ : Type}

theorem under_type {n : Nat} {A : Around} (h : Rm (n + 1) A) (C : Addr) (vals : List Value) (kw : List (Str × Value)) : Rm n (A.under (.builtin "type.__call__" ⟨.ref C :: vals, kw⟩)) := by
  refine ⟨?_, ?_, h.handled⟩
  · have := h.depth; rw [depth_under_kw]; omega
  · have := h.units
    have e : (A.under (.builtin "type.__call__" ⟨.ref C :: vals, kw⟩)).units = A.units + 1 := rfl
    rw [e]; omega

theorem stepCall_sound (O : B.Ok) (hr : Snd B n r) {f : V} {args : List V} {kw : List (Str × V)} (h : stepCall B.K r f args kw H = some (v, H')) {fc : Value} {acs : List Value} {kcs : List (Str × Value)} (hA : Rm (n + 1) A) (rf : VR W f fc) (za : VRs W args acs) (zk : KwR W kw kcs) :
    Cd B A W H (.call fc ⟨acs, kcs⟩) v H' := by
  unfold stepCall at h
  split at h
  · rename_i a
    cases rf with
    | @stat _ o e =>
      split at h
      · rename_i oc od fd sl ho
        exact callFn_sound O hr hA ho h za zk
      · rename_i oc od cd sl ho
        split at h
        · rename_i hm
          split at h
          · rename_i fI hi
            split at h
            · rename_i H2 hc
              cases h
              obtain ⟨h1, h2, h3⟩ := methIn_of hi
              intro R s S q
              obtain ⟨hh, g, dd, t, os⟩ := s
              have X := S.kin O
              have S2 := S.push_inst a t
              have l := S.le_putInst
              refine make_core (makes_of X hm) (looks_findIn X h1) (fun self => bind_fn X self (beq_iff_eq.mp h3)) (.inl rfl) ?_
              have hx : (Sim.putInst W hh.objs.size H.length) (hh.objs.size + 1) = some (.obj H.length) := put_self _ _ _
              refine hr.call hc (under_type hA a acs kcs) (meth_vr O S2 h3) (.cons (.ref hx) (za.le l)) (kcs := kcs) ?_ _ _ S2 fun c s3 W3 l3 S3 rc => ?_
              · exact KwR.le l zk
              · cases rc
                exact ⟨rfl, q _ s3 W3 (l.trans l3) S3 (.ref (l3 _ _ hx))⟩
            · cases h
          · cases h
        · cases h
      · cases h
  · cases h
end
end Mini
namespace Mini
open PySem PySem.W PySem.W.X PySem.Calls PyProof.Rows Builtin

section
variable {B : Base} {A : Around} {W W' : OM} {H H' H'' : Hp} {env : Env} {sc : Scope} {ρ ρ' ρ'' φ : Loc} {s : Shared} {v u : V} {c d : Value} {n : Nat} {r : Rec} {α β γ δ : Type}

theorem owned_sound {it : It} {X : List Addr} {E : Value → Shared → Prop} {Q : Unit → Shared → Prop} {target : Expr} {prog : Program} {w : World} (h : ItR W it c X) (S : Sim B W H s) (q : Q () s) : wpAny (model prog w) A (letOwnedTupleGo target c d) Q E s := by
  have go : ∀ {a : Addr} {o : Obj} {T : String}, c = .ref a → W a = some (.prv o) → o.cls = .type T → ["enumerate", "zip", "dict_itemiterator", "dict_reverseitemiterator", "odict_iterator", "itertools.zip_longest", "itertools.pairwise"].contains T = false → wpAny (model prog w) A (letOwnedTupleGo target c d) Q E s := by
    intro a o T hc ha hcl hT
    subst hc
    have ho := S.prv a o ha
    have tail : ∀ b : Addr, wpAny (model prog w) A (do
        let o ← load a
        match o.cls, o.data with
        | .type n, .fields vs =>
          if ["enumerate", "zip", "dict_itemiterator", "dict_reverseitemiterator", "odict_iterator", "itertools.zip_longest", "itertools.pairwise"].contains n && vs[0]? == some (rawInt b) then
            rule "for.unpacks-the-owned-tuple"
            updateField a 0 .none
        | _, _ => pure () : Sem Unit) Q E s := by
      intro b
      refine wpAny_bind (wpAny_load ho ?_)
      rw [hcl]
      cases o.data <;> dsimp only <;> first | exact wpAny_pure q | (rw [hT]; exact wpAny_pure q)
    unfold letOwnedTupleGo
    split
    · cases d <;> first | exact wpAny_pure q | exact tail _
    · cases d <;> first | exact wpAny_pure q | exact tail _
    · exact wpAny_pure q
  cases h with
  | lst e a b f => exact go rfl e a (by decide)
  | seqL e a b f z => exact go rfl e a (by decide)
  | seqT e a b f z => exact go rfl e a (by decide)
  | seqB e a b => exact go rfl e a (by decide)
  | seqA e a b => exact go rfl e a (by decide)
  | seqW e a b => exact go rfl e a (by decide)
  | rng e => exact go rfl e rfl (by decide)

/-- an iterator is its own iterator -/
theorem self_sound {it : It} {X : List Addr} {E : Value → Shared → Prop} {Q : Value → Shared → Prop} (h : ItR W it c X) (S : Sim B W H s) (q : Q c s) : wpAny B.m A (pyIter c) Q E s := by
  cases h with
  | lst e a b f => exact wpAny_pyIter_listiter ⟨_, S.prv _ _ e, a, b⟩ q
  | seqL e a b f z => exact wpAny_pyIter_listiter ⟨_, S.prv _ _ e, a, b⟩ q
  | seqT e a b f z => exact wpAny_pyIter_tupleiter ⟨_, S.prv _ _ e, a, b⟩ q
  | seqB e a b => exact KBw.pyIter_self ⟨_, S.prv _ _ e, a, b⟩ q
  | seqA e a b => exact wpAny_pyIter_striter_ascii ⟨_, S.prv _ _ e, a, b⟩ q
  | seqW e a b => exact wpAny_pyIter_striter_wide ⟨_, S.prv _ _ e, a, b⟩ q
  | rng e => exact wpAny_pyIter_rangeiter (S.prv _ _ e) q

/-- the cells of names from without -/
def clOf (cells : List (Str × Addr)) : List (Str × NameKind) → List (Str × Addr) → List (Str × Addr)
  | [], acc => acc
  | (x, k) :: r, acc => if k == .free then clOf cells r ((x, (cells.lookup x).getD 0) :: acc) else clOf cells r acc
theorem closure_eq {names : List (Str × NameKind)} (f : Str × NameKind → List (Str × Addr) → Sem (ForInStep (List (Str × Addr)))) (hf : ∀ x k cs, f (x, k) cs = if (k == NameKind.free) = true then (do let a ← cellOf env x; pure (.yield ((x, a) :: cs))) else pure (.yield cs)) :
    ∀ (acc : List (Str × Addr)), (∀ p ∈ names, p.2 = .free → (env.cells.lookup p.1).isSome = true) → forIn names acc f = pure (clOf env.cells names acc) := by
  induction names with
  | nil => intro acc _; rw [List.forIn_nil]; rfl
  | cons p r ih =>
    intro acc h
    obtain ⟨x, k⟩ := p
    rw [List.forIn_cons, hf]
    unfold clOf
    cases hk : k == NameKind.free with
    | true =>
      obtain ⟨a, ha⟩ := Option.isSome_iff_exists.mp (h (x, k) (.head _) (eq_of_beq hk))
      have : cellOf env x = pure a := by unfold cellOf; rw [ha]
      simp only [if_true, this, pure_bind, ha, Option.getD_some]
      exact ih _ fun p hp => h p (.tail _ hp)
    | false =>
      simp only [Bool.false_eq_true, if_false, pure_bind]
      exact ih _ fun p hp => h p (.tail _ hp)
theorem closureFor_sound {sc' : Scope} (h : ∀ p ∈ sc'.names, p.2 = .free → (env.cells.lookup p.1).isSome = true) : closureFor sc' env = pure (clOf env.cells sc'.names []) := by
  unfold closureFor
  dsimp only
  rw [closure_eq _ (fun x k cs => by cases hk : k == NameKind.free <;> simp [hk]) [] h]
  rfl
theorem clOf_lookup {cells : List (Str × Addr)} {x : Str} : ∀ {names : List (Str × NameKind)} {acc : List (Str × Addr)}, ((∃ p ∈ names, p.1 = x ∧ p.2 = .free) ∨ (acc.lookup x = some ((cells.lookup x).getD 0))) → (clOf cells names acc).lookup x = some ((cells.lookup x).getD 0)
  | [], acc, h => h.elim (fun ⟨_, hp, _⟩ => nomatch hp) id
  | (y, k) :: r, acc, h => by
    unfold clOf
    cases hk : k == NameKind.free with
    | true =>
      simp only [if_true]
      refine clOf_lookup ?_
      by_cases hy : x = y
      · subst hy; exact .inr (by rw [List.lookup_cons, beq_self_eq_true])
      · have hb : (x == y) = false := by simpa using hy
        rcases h with ⟨p, hp, h1, h2⟩ | h
        · rcases List.mem_cons.mp hp with rfl | hp
          · exact absurd h1.symm hy
          · exact .inl ⟨p, hp, h1, h2⟩
        · exact .inr (by rw [List.lookup_cons, hb]; exact h)
    | false =>
      simp only [Bool.false_eq_true, if_false]
      refine clOf_lookup ?_
      rcases h with ⟨p, hp, h1, h2⟩ | h
      · rcases List.mem_cons.mp hp with rfl | hp
        · have h2 : k = .free := h2
          rw [h2] at hk; cases hk
        · exact .inl ⟨p, hp, h1, h2⟩
      · exact .inr h
theorem freeOf_lookup {x : Str} {v : V} : ∀ {names : List (Str × NameKind)}, (freeOf sc ρ φ names).lookup x = some v → nameL sc ρ φ x = some v
  | [], h => by cases h
  | (y, k) :: r, h => by
    unfold freeOf at h
    split at h
    · split at h
      · rename_i w hw
        rw [List.lookup_cons] at h
        cases hxy : x == y with
        | true => rw [hxy] at h; cases h; rw [eq_of_beq hxy]; exact hw
        | false => rw [hxy] at h; exact freeOf_lookup h
      · exact freeOf_lookup h
    · exact freeOf_lookup h

theorem relabel_lookup {x : Str} : ∀ {names : List (Str × NameKind)} {k : NameKind}, names.lookup x = some k →
    (names.map fun (n, k) => if (k == NameKind.free && env.scope.kind == .function && env.kindOf n == some .cell) then (n, NameKind.cell) else (n, k)).lookup x = some k ∨
      (k = .free ∧ (names.map fun (n, k) => if (k == NameKind.free && env.scope.kind == .function && env.kindOf n == some .cell) then (n, NameKind.cell) else (n, k)).lookup x = some .cell)
  | [], k, h => by cases h
  | (y, k') :: r, k, h => by
    rw [List.lookup_cons] at h
    rw [List.map_cons]
    dsimp only
    cases hxy : x == y with
    | true =>
      rw [hxy] at h
      cases h
      by_cases hc : (k' == NameKind.free && env.scope.kind == .function && env.kindOf y == some .cell) = true
      · rw [if_pos hc, List.lookup_cons, hxy]
        simp only [Bool.and_eq_true, beq_iff_eq] at hc
        exact .inr ⟨hc.1.1, rfl⟩
      · rw [if_neg hc, List.lookup_cons, hxy]
        exact .inl rfl
    | false =>
      rw [hxy] at h
      have ih := relabel_lookup h
      by_cases hc : (k' == NameKind.free && env.scope.kind == .function && env.kindOf y == some .cell) = true
      · rw [if_pos hc, List.lookup_cons, hxy]; exact ih
      · rw [if_neg hc, List.lookup_cons, hxy]; exact ih
theorem relabel_back {x : Str} : ∀ {names : List (Str × NameKind)}, (names.map fun (n, k) => if (k == NameKind.free && env.scope.kind == .function && env.kindOf n == some .cell) then (n, NameKind.cell) else (n, k)).lookup x = some .local → names.lookup x = some .local
  | [], h => by cases h
  | (y, k') :: r, h => by
    rw [List.map_cons] at h
    dsimp only at h
    rw [List.lookup_cons]
    cases hxy : x == y with
    | true =>
      by_cases hc : (k' == NameKind.free && env.scope.kind == .function && env.kindOf y == some .cell) = true
      · rw [if_pos hc, List.lookup_cons, hxy] at h; cases h
      · rw [if_neg hc, List.lookup_cons, hxy] at h; exact h
    | false =>
      by_cases hc : (k' == NameKind.free && env.scope.kind == .function && env.kindOf y == some .cell) = true
      · rw [if_pos hc, List.lookup_cons, hxy] at h; exact relabel_back h
      · rw [if_neg hc, List.lookup_cons, hxy] at h; exact relabel_back h
end
end Mini
namespace Mini
open PySem PySem.W PySem.W.X PySem.Calls PyProof.Rows Builtin

section
variable {B : Base} {A : Around} {W W' : OM} {H H' H'' : Hp} {env : Env} {sc : Scope} {ρ ρ' ρ'' φ : Loc} {s : Shared} {v u : V} {c d : Value} {n : Nat} {r : Rec} {α β γ δ : Type}

theorem allTr_sound (hr : Snd B n r) (hA : Rm n A) : ∀ {es : List Expr} {b : Bool} {H H' : Hp} {W : OM}, FrameOk W env sc ρ φ → allTr (r.tr sc ρ φ) es H = some (b, H') →
    Sm B A W H (forIn es true fun c r => if r = true then do let ok ← isTrue c env (eval c env); pure (ForInStep.yield ok) else pure (ForInStep.yield r)) REq b H'
  | [], b, H, H', W, F, h => by
    cases h
    rw [List.forIn_nil]
    exact Sm.pure rfl
  | e :: es, b, H, H', W, F, h => by
    unfold allTr at h
    rw [List.forIn_cons]
    simp only [if_true]
    split at h
    · rename_i H1 h1
      intro E Q s S q
      refine wpAny_bind (wpAny_bind (hr.tr h1 hA F E _ s S fun c1 s1 W1 l1 S1 r1 => ?_))
      cases r1
      refine wpAny_pure ?_
      exact allTr_sound hr hA (F.le l1) h E Q s1 S1 fun c s' W' l S' r => q c s' W' (l1.trans l) S' r
    · rename_i H1 h1
      cases h
      intro E Q s S q
      refine wpAny_bind (wpAny_bind (hr.tr h1 hA F E _ s S fun c1 s1 W1 l1 S1 r1 => ?_))
      cases r1
      refine wpAny_pure ?_
      have stay : ∀ (l : List Expr), forIn l false (fun c r => if r = true then do let ok ← isTrue c env (eval c env); pure (ForInStep.yield ok) else pure (ForInStep.yield r)) = (pure false : Sem Bool) := by
        intro l
        induction l with
        | nil => rw [List.forIn_nil]
        | cons x l ih => rw [List.forIn_cons]; simp only [Bool.false_eq_true, if_false, pure_bind]; exact ih
      dsimp only
      rw [stay]
      exact wpAny_pure (q false s1 W1 l1 S1 rfl)
    · cases h

theorem compTurn_next {K : Frag} {sc : Scope} {elt : Expr} {g : Comprehension} {i : Nat} {f : Fl} (h : compTurnV K r sc φ elt g i v ρ H = some (f, ρ', H')) : f = .next := by
  unfold compTurnV at h
  repeat' (split at h)
  all_goals cases h
  all_goals rfl
/-- a turn, and all turns, of a comprehension -/
theorem comp_loop (O : B.Ok) (hr : Snd B n r) (hA : Rm (n + 1) A) {sc' : Scope} {elt : Expr} {g : Comprehension} {i : Nat} {acc : Addr} {X : List Addr} {W₀ : OM} {ρe : Loc} {He : Hp} {scp : Scope} {pos : Pos}
    {target iter : Expr} {ifs : List Expr} (hg : g = ⟨target, iter, ifs, 0⟩) (hX : Off env sc' φ (· ∈ X)) (hacc : W₀ acc = some (.obj i)) {R : Result → Shared → Prop}
    (q : ∀ s' W', LeX (fun a => mine env sc' a ∨ a ∈ X) W₀ W' → Sim B W' He s' → FrameOk W' env sc' ρe φ → R (.ok .next) s') :
    ∀ (m : Nat) (it : It) (ρ : Loc) (H : Hp) (W : OM) (s : Shared), forIt B.K (compTurnV B.K r sc' φ elt g i) m it ρ H = some (.next, ρe, He) → Sim B W H s → FrameOk W env sc' ρ φ → ItR W it c X → LeX (fun a => mine env sc' a ∨ a ∈ X) W₀ W →
      codeAny B.m A (.compLoop (.ListComp elt [⟨target, iter, ifs, 0⟩] scp pos) 0 c (.ref acc) env) R s := by
  intro m it ρ H W s hf S F hit hl
  let I : Nat → Shared → Prop := fun m s => ∃ it ρ H W, forIt B.K (compTurnV B.K r sc' φ elt g i) m it ρ H = some (.next, ρe, He) ∧ Sim B W H s ∧ FrameOk W env sc' ρ φ ∧ ItR W it c X ∧ LeX (fun a => mine env sc' a ∨ a ∈ X) W₀ W
  refine codeAny_loop rfl I (fun m s hI => ?_) m ⟨it, ρ, H, W, hf, S, F, hit, hl⟩
  obtain ⟨it, ρ, H, W, hf, S, F, hit, hl⟩ := hI
  show wpAny _ A ((compTurn (.ListComp elt [⟨target, iter, ifs, 0⟩] scp pos) 0 c (.ref acc) env).onRaise (fun x => do noteFrame x env; theTreesLotGoes x)) _ _ s
  refine wpAny_noted ?_
  rw [compTurn_list]
  refine wpAny_bind (wpAny_standAt (wpAny_bind ?_))
  cases m with
  | zero => cases hf
  | succ m =>
    unfold forIt at hf
    split at hf
    · cases hf
    · rename_i hn
      cases hf
      refine next_sound O hA.handled hit hn _ _ s S fun s1 S1 => wpAny_pure ?_
      exact q s1 _ (hl.trans ((lex_drop hit.prv).mono fun a ha => .inr ha)) S1 (F.lex (lex_drop hit.prv) hX)
    · rename_i w it' hn
      refine next_sound O hA.handled hit hn _ _ s S fun c1 s1 W1 l1 S1 r1 hit1 => ?_
      have F1 := F.lex l1 hX
      have hl1 := hl.trans (l1.mono fun a ha => .inr ha)
      refine wpAny_bind (owned_sound hit1 S1 ?_)
      split at hf
      · rename_i ρ2 H2 ht
        unfold compTurnV at ht
        split at ht
        · rename_i ρ3 H3 ha
          have hl2 : ∀ {W2 : OM}, LeX (mine env sc') W1 W2 → LeX (fun a => mine env sc' a ∨ a ∈ X) W₀ W2 := fun l => hl1.trans (l.mono fun a ha => .inl ha)
          refine wpAny_bind (asg_sound O hr hA F1 r1 (hg ▸ ha) _ _ s1 S1 fun _ s2 W2 l2 S2 F2 _ => ?_)
          have hit2 := hit1.lex l2 fun a ha hm => hX.1 a ha hm
          split at ht
          · rename_i H4 htr
            cases ht
            refine wpAny_bind (allTr_sound hr hA.less F2 (hg ▸ htr) _ _ s2 S2 fun b s3 W3 l3 S3 e3 => ?_)
            cases e3
            simp only [Bool.false_eq_true, if_false]
            exact wpAny_pure ⟨rfl, m, Nat.lt_succ_self m, it', _, _, W3, hf, S3, F2.le l3, hit2.lex (P := fun _ => False) (l3.x) (fun _ _ q => q), (hl2 l2).trans l3.x⟩
          · rename_i H4 htr
            split at ht
            · rename_i y H5 hev
              split at ht
              · rename_i xs hxs
                split at ht
                · rename_i hz
                  cases ht
                  refine wpAny_bind (allTr_sound hr hA.less F2 (hg ▸ htr) _ _ s2 S2 fun b s3 W3 l3 S3 e3 => ?_)
                  cases e3
                  simp only [if_true]
                  refine wpAny_bind (wpAny_bind (hr.ev hev hA.less (F2.le l3) _ _ s3 S3 fun cy s4 W4 l4 S4 ry => ?_))
                  have l5 : LeX (fun a => mine env sc' a ∨ a ∈ X) W₀ W4 := ((hl2 l2).trans l3.x).trans l4.x
                  have ha4 : W4 acc = some (.obj i) := l5.live.obj hacc
                  obtain ⟨o, h1, cc⟩ := S4.obj _ _ ha4
                  rw [hxs] at h1; cases h1
                  obtain ⟨cvs, k, gg, z⟩ := cc
                  refine wpAny_bind (call_meets PySem.F.slot_list_append ⟨_, gg, rfl⟩ PySem.F.entry_list_append (PySem.F.args_list_append_2 _ _) (list_append acc cvs k _ (by rw [← Array.length_toList, ← z.length]; exact sz hz)) ⟨gg, ?_⟩)
                  refine wpAny_pure (wpAny_pure ⟨rfl, m, Nat.lt_succ_self m, it', _, _, W4, hf, S4.change_list (xs' := xs ++ [y]) (n' := if (cvs.push cy).size == cvs.size then k else k + 1) (cvs' := cvs.push cy) ha4 hxs sameBut_update (Heap.get?_update_self _ gg rfl) ?_ _, (F2.le l3).le l4, (hit2.lex (P := fun _ => False) (l3.x) (fun _ _ q => q)).lex (P := fun _ => False) (l4.x) (fun _ _ q => q), l5⟩)
                  rw [Array.toList_push]
                  exact z.append (.cons ry .nil)
                · cases ht
              · cases ht
            · cases ht
          · cases ht
        · cases ht
      · rename_i ht; cases compTurn_next ht
      · rename_i ht; cases compTurn_next ht
      · cases hf
      · cases hf
end
end Mini
namespace Mini
open PySem PySem.W PySem.W.X PySem.Calls PyProof.Rows Builtin

section
variable {B : Base} {A : Around} {W W' : OM} {H H' H'' : Hp} {env : Env} {sc : Scope} {ρ ρ' ρ'' φ : Loc} {s : Shared} {v u : V} {c d : Value} {n : Nat} {r : Rec} {α β γ δ : Type}

theorem iterOf_sound (O : B.Ok) (hr : Snd B n r) (hA : Rm n A) (F : FrameOk W env sc ρ φ) {e : Expr} {it : It} (h : evIt B.K r sc ρ φ e H = some (it, H')) :
    (∀ x, foldedSetIterable e env x = pure x) ∧ ∃ v, r.ev sc ρ φ e H = some (v, H') ∧ iterOf B.K H' v = some it := by
  unfold evIt at h
  split at h
  · cases h
  · rename_i hne
    unfold evItP at h
    split at h
    · rename_i v H1 he
      unfold itOf at h
      split at h
      · rename_i it' hi
        cases h
        refine ⟨fun x => ?_, v, he, hi⟩
        cases e <;> first | rfl | exact absurd rfl (hne _ _ _)
      · cases h
    · cases h

theorem mem_names {x : Str} {k : NameKind} : ∀ {names : List (Str × NameKind)}, names.lookup x = some k → (x, k) ∈ names
  | [], h => by cases h
  | (y, k') :: r, h => by
    rw [List.lookup_cons] at h
    cases hxy : x == y with
    | true => rw [hxy] at h; cases h; rw [eq_of_beq hxy]; exact .head _
    | false => rw [hxy] at h; exact .tail _ (mem_names h)

/-- the frame of a comprehension -/
theorem cframe_sound (O : B.Ok) (S : Sim B W H s) (F : FrameOk W env sc ρ φ) {sc' : Scope} (hok : compOk sc ρ φ sc' = true) {h' : Heap} (hn : h'.Ns s.heap.objs.size fun _ => none) {o : Obj}
    (sb : Heap.SameBut s.heap.objs.size (s.heap.push o) h') (tk : Nat) :
    Sim B (own W h' [s.heap.objs.size]) H { s with heap := h', toks := tk } ∧ FrameOk (own W h' [s.heap.objs.size]) (compEnvC sc' (clOf env.cells sc'.names []) s.heap.objs.size env) sc' [] (freeOf sc ρ φ sc'.names) ∧ Le W (own W h' [s.heap.objs.size]) := by
  obtain ⟨hkind, hnames⟩ := Bool.and_eq_true_iff.mp hok
  have hkind : sc'.kind = .function := eq_of_beq hkind
  have hX : ∀ a ∈ [s.heap.objs.size], W a = none := by intro a ha; simp at ha; subst ha; exact S.push_none
  have keep : ∀ b o, s.heap.get? b = some o → h'.get? b = some o := fun b o e => by
    have hb : b ≠ s.heap.objs.size := Nat.ne_of_lt (Heap.lt_size e)
    rw [sb.2 b hb]; exact Heap.get?_push_of_some _ e
  have hcell : ∀ x, sc'.names.lookup x ≠ some .cell := fun x hx => by
    have := List.all_eq_true.mp hnames _ (mem_names hx)
    simp at this
  refine ⟨S.owned hX (s' := { s with heap := h', toks := tk }) keep rfl rfl, ⟨hkind, by show (relabel sc' env).kind = _; exact hkind, F.globals, F.builtins, fun x k hx => ?_, fun x hx => relabel_back hx, F.code.live (le_own hX).live, ?_, fun x hx => absurd hx (hcell x), fun x y c hx => absurd hx (hcell x), fun x w hx hw => ?_⟩, le_own hX⟩
  · have : (compEnvC sc' (clOf env.cells sc'.names []) s.heap.objs.size env).kindOf x = (sc'.names.map fun (n, k) => if (k == NameKind.free && env.scope.kind == .function && env.kindOf n == some .cell) then (n, NameKind.cell) else (n, k)).lookup x := rfl
    rw [this]
    rcases relabel_lookup (env := env) hx with e | ⟨rfl, e⟩
    · cases k <;> first | exact .inl e | exact e
    · exact .inr e
  · obtain ⟨o', es, ep, h1, h2, h3, h4⟩ := hn
    exact ⟨o', es, ep, own_in (by simp; rfl) h1, h2, h3, fun x v _ hv => by cases hv⟩
  · have hnm := freeOf_lookup hw
    have hmem := mem_names hx
    unfold nameL at hnm
    have fin : ∀ {c : Addr} {o : Obj} {u : Value}, env.cells.lookup x = some c → W c = some (.prv o) → o.data = .cell (some u) → VR W w u → ∃ c o u, (compEnvC sc' (clOf env.cells sc'.names []) s.heap.objs.size env).cells.lookup x = some c ∧ own W h' [s.heap.objs.size] c = some (.prv o) ∧ o.data = .cell (some u) ∧ VR (own W h' [s.heap.objs.size]) w u ∧
        c ≠ (compEnvC sc' (clOf env.cells sc'.names []) s.heap.objs.size env).locals ∧ ∀ y, sc'.names.lookup y = some .cell → (compEnvC sc' (clOf env.cells sc'.names []) s.heap.objs.size env).cells.lookup y ≠ some c := by
      intro c o u h1 h2 h3 h4
      refine ⟨c, o, u, ?_, le_own hX _ _ h2, h3, h4.le (le_own hX), ?_, fun y hy => absurd hy (hcell y)⟩
      · show (clOf env.cells sc'.names []).lookup x = some c
        rw [clOf_lookup (.inl ⟨_, hmem, rfl, rfl⟩), h1]; rfl
      · rintro rfl
        exact absurd (S.lt h2) (Nat.lt_irrefl _)
    split at hnm
    · rename_i hcx
      obtain ⟨c, o', cv, e1, e2, e3, e4, e5⟩ := F.cel x hcx
      obtain ⟨u, rfl, ru⟩ := e5 w hnm
      exact fin e1 e2 e3 ru
    · rename_i hfx
      obtain ⟨c, o', u, e1, e2, e3, e4, _⟩ := F.fre x w hfx hnm
      exact fin e1 e2 e3 e4
    · cases hnm

theorem cells_ok (F : FrameOk W env sc ρ φ) {sc' : Scope} (hok : compOk sc ρ φ sc' = true) : ∀ p ∈ sc'.names, p.2 = .free → (env.cells.lookup p.1).isSome = true := by
  obtain ⟨hkind, hnames⟩ := Bool.and_eq_true_iff.mp hok
  intro p hp hf
  have := List.all_eq_true.mp hnames p hp
  rw [hf] at this
  simp only [Bool.and_eq_true, Bool.or_eq_true] at this
  have h1 : (nameL sc ρ φ p.1).isSome = true := by
    rcases this.1.2 with h | h
    · simp at h
    · exact h
  obtain ⟨w, hw⟩ := Option.isSome_iff_exists.mp h1
  unfold nameL at hw
  split at hw
  · rename_i hc
    obtain ⟨c, _, _, e, _⟩ := F.cel _ hc
    rw [e]; rfl
  · rename_i hc
    obtain ⟨c, _, _, e, _⟩ := F.fre _ w hc hw
    rw [e]; rfl
  · cases hw

theorem comp_core (O : B.Ok) (hr : Snd B n r) (hA : Rm (n + 1) A) (F : FrameOk W env sc ρ φ) {elt : Expr} {g : Comprehension} {sc' : Scope} {pos : Pos} {it : It} {H1 H2 : Hp} {ρe : Loc} {m : Nat} (hok : compOk sc ρ φ sc' = true) (hasy : g.is_async = 0)
    (hit : evIt B.K r sc ρ φ g.iter H = some (it, H1)) (hloop : forIt B.K (compTurnV B.K r sc' (freeOf sc ρ φ sc'.names) elt g H1.length) m it [] (H1 ++ [.list []]) = some (.next, ρe, H2))
    (use : Option (Value → Sem Unit)) {E : Value → Shared → Prop} {Q : Value → Shared → Prop} {p : Pos} (S : Sim B W H s)
    (post : ∀ s' W' C l, Sim B W' H2 s' → Le W W' → W C = none → (∃ o es k, W' C = some (.prv o) ∧ o.data = .dict es k ∧ StrKeys es) → W' l = some (.obj H1.length) → compPost B.m A E use Q (.ref l) C (.ok .next) s') :
    wpAny B.m A (comprehension (.ListComp elt [g] sc' pos) sc' env p (newList []) false (eval g.iter env) use) Q E s := by
  obtain ⟨hfold, v0, hev, hi⟩ := iterOf_sound O hr hA.less F hit
  obtain ⟨hkind, hnames⟩ := Bool.and_eq_true_iff.mp hok
  have hkind : sc'.kind = .function := eq_of_beq hkind
  obtain ⟨target, iter, ifs, asy⟩ := g
  dsimp only at hasy hfold hev hit
  subst hasy
  refine wpAny_comprehension_free (g := ⟨target, iter, ifs, 0⟩) (gs := []) rfl hfold (closureFor_sound (cells_ok F hok)) hkind (fun x hx hl => ?_) ?_
  · have := List.all_eq_true.mp hnames x hx
    rw [hl] at this
    simp only [Bool.and_eq_true, Bool.or_eq_true] at this
    rcases this.2 with h | h
    · simp at h
    · exact eq_of_beq h
  refine hr.ev hev hA.less F _ _ s S fun xv s1 W1 l1 S1 r1 => ?_
  refine iter_sound O r1 hi _ _ s1 S1 fun itc s2 W2 X l2 S2 hit2 hX => ?_
  refine wpAny_newList ?_
  have lz : Le W2 (put W2 s2.heap.objs.size (.obj H1.length)) := le_put S2.push_none
  have S3 := S2.push_list (xs := []) (cvs := #[]) (by simpa using VRs.nil) 0 s2.toks
  have F3 : FrameOk (put W2 s2.heap.objs.size (.obj H1.length)) env sc ρ φ := ((F.le l1).le l2).le lz
  refine wpAny_newFunctionEnv (fun x hx hc => ?_) (fun x hx => nomatch hx) (fun h' hn sb => ?_) hkind
  · have := List.all_eq_true.mp hnames x hx
    rw [hc] at this
    simp at this
  have hn' : h'.Ns (s2.heap.push { cls := .type "list", data := .seq ([] : List Value).toArray }).objs.size fun _ => none := hn
  obtain ⟨S4, F4, l4⟩ := cframe_sound O S3 F3 hok hn' sb (s2.toks + 0)
  have hit3 : ItR (own (put W2 s2.heap.objs.size (.obj H1.length)) h' [(s2.heap.push (lstObj #[] 0)).objs.size]) it itc X := hit2.lex (P := fun _ => False) (lz.trans l4).x (fun _ _ q => q)
  have hacc : own (put W2 s2.heap.objs.size (.obj H1.length)) h' [(s2.heap.push (lstObj #[] 0)).objs.size] s2.heap.objs.size = some (.obj H1.length) := l4 _ _ (put_self _ _ _)
  have hCW : put W2 s2.heap.objs.size (.obj H1.length) (s2.heap.push (lstObj #[] 0)).objs.size = none := S3.push_none
  have hCX : (s2.heap.push (lstObj #[] 0)).objs.size ∉ X := fun hm => by
    obtain ⟨o, e⟩ := hit2.prv _ hm
    rw [lz _ _ e] at hCW; cases hCW
  have hoff : Off (compEnvC sc' (clOf env.cells sc'.names []) (s2.heap.push (lstObj #[] 0)).objs.size env) sc' (freeOf sc ρ φ sc'.names) (· ∈ X) := by
    refine ⟨fun a ha hm => ?_, fun x w a hx hw hc ha => ?_⟩
    · rcases hm with rfl | ⟨x, hx, _⟩
      · exact hCX ha
      · have := List.all_eq_true.mp hnames _ (mem_names hx)
        simp at this
    · obtain ⟨c', o', u', e1, e2, e3, e4, e5, e6⟩ := F4.fre x w hx hw
      rw [hc] at e1; cases e1
      have hnm := freeOf_lookup hw
      unfold nameL at hnm
      have hcl : (clOf env.cells sc'.names []).lookup x = some ((env.cells.lookup x).getD 0) := clOf_lookup (.inl ⟨_, mem_names hx, rfl, rfl⟩)
      have hc' : (clOf env.cells sc'.names []).lookup x = some a := hc
      rw [hcl] at hc'
      have hWa : ∃ o, W a = some (.prv o) := by
        split at hnm
        · rename_i hcx
          obtain ⟨c1, o1, cv, g1, g2, _⟩ := F.cel x hcx
          rw [g1] at hc'; cases hc'
          exact ⟨_, g2⟩
        · rename_i hfx
          obtain ⟨c1, o1, u1, g1, g2, _⟩ := F.fre x w hfx hnm
          rw [g1] at hc'; cases hc'
          exact ⟨_, g2⟩
        · cases hnm
      obtain ⟨o, e⟩ := hWa
      have := hX a ha
      rw [l1 _ _ e] at this; cases this
  have q : ∀ s' W', LeX (fun a => mine (compEnvC sc' (clOf env.cells sc'.names []) (s2.heap.push (lstObj #[] 0)).objs.size env) sc' a ∨ a ∈ X) (own (put W2 s2.heap.objs.size (.obj H1.length)) h' [(s2.heap.push (lstObj #[] 0)).objs.size]) W' → Sim B W' H2 s' → FrameOk W' (compEnvC sc' (clOf env.cells sc'.names []) (s2.heap.push (lstObj #[] 0)).objs.size env) sc' ρe (freeOf sc ρ φ sc'.names) →
      compPost B.m A E use Q (.ref s2.heap.objs.size) (s2.heap.push (lstObj #[] 0)).objs.size (.ok .next) s' := by
    intro s' W' lx S' F'
    have hCn : W (s2.heap.push (lstObj #[] 0)).objs.size = none := by
      cases e : W (s2.heap.push (lstObj #[] 0)).objs.size with
      | none => rfl
      | some x => rw [(((l1.trans l2).trans lz) _ _ e)] at hCW; cases hCW
    refine post s' W' _ _ S' (fun a x e => ?_) hCn ?_ (lx.live.obj hacc)
    · refine (lx a x ((((l1.trans l2).trans lz).trans l4) a x e)).resolve_left fun ⟨⟨o, ho⟩, hm⟩ => ?_
      rcases hm with hm | hm
      · rcases hm with rfl | ⟨y, hy, _⟩
        · have e' : W (s2.heap.push (lstObj #[] 0)).objs.size = some x := e
          rw [hCn] at e'; cases e'
        · have := List.all_eq_true.mp hnames _ (mem_names hy)
          simp at this
      · have := hX a hm
        rw [l1 _ _ e] at this; cases this
    · obtain ⟨o, es, k, e1, e2, e3, _⟩ := F'.loc
      exact ⟨o, es, k, e1, e2, e3⟩
  have main := comp_loop (elt := elt) (g := ⟨target, iter, ifs, 0⟩) (i := H1.length) (target := target) (iter := iter) (ifs := ifs) (c := itc) (acc := s2.heap.objs.size) (scp := sc') (pos := pos) O hr hA rfl hoff hacc q
  exact codeAny_compStart_list (main m it [] (H1 ++ [.list []]) _ _ hloop S4 F4 hit3 (LeX.refl _))
    (self_sound hit3 S4 (main m it [] (H1 ++ [.list []]) _ _ hloop S4 F4 hit3 (LeX.refl _)))
end
end Mini
namespace Mini
open PySem PySem.W PySem.W.X PySem.Calls PyProof.Rows Builtin

section
variable {B : Base} {A : Around} {W W' : OM} {H H' H'' : Hp} {env : Env} {sc : Scope} {ρ ρ' ρ'' φ : Loc} {s : Shared} {v u : V} {c d : Value} {n : Nat} {r : Rec} {α β γ δ : Type}

theorem const_sound {k : Const} (h : constV k = some v) : Sm B A W H (constValue env k) VR v H := by
  unfold constV at h
  split at h
  · cases h; exact Sm.pure .none
  · cases h; exact Sm.pure (.bool _)
  · cases h; exact fun E Q s S q => wpAny_mkInt (q _ _ W (Le.refl W) (S.tok _) (.int _ _))
  · cases h; exact fun E Q s S q => wpAny_mkText (q _ _ W (Le.refl W) (S.tok _) (.str _ _))
  · cases h; exact fun E Q s S q => wpAny_mkTextBytes (q _ _ W (Le.refl W) (S.tok _) (.bytes _ _))
  · cases h

theorem boolV_sound (O : B.Ok) (hr : Snd B n r) (hA : Rm n A) {op : BoolOp} {pos : Pos} : ∀ {es : List Expr} {v : V} {H H' : Hp} {W : OM}, FrameOk W env sc ρ φ → boolV B.K op (r.ev sc ρ φ) es H = some (v, H') → Sm B A W H (boolOp pos op (evalEach es env)) VR v H'
  | [], v, H, H', W, F, h => by cases h
  | [e], v, H, H', W, F, h => hr.ev h hA F
  | e :: e' :: es, v, H, H', W, F, h => by
    unfold boolV at h
    rw [arm_evalEach_cons, arm_evalEach_cons]
    unfold boolOp
    split at h
    · rename_i v1 H1 h1
      split at h
      · rename_i t ht
        refine Sm.bind (hr.ev h1 hA F) fun W1 c1 l1 r1 => Sm.at ?_
        refine Sm.bind (truthy_sound O r1 ht).held fun W2 b l2 e2 => ?_
        cases e2
        have rest : boolV B.K op (r.ev sc ρ φ) (e' :: es) H1 = some (v, H') → Sm B A W2 H1 (boolOp pos op (evalEach (e' :: es) env)) VR v H' := fun h => boolV_sound O hr hA ((F.le l1).le l2) h
        cases op <;> cases t <;> dsimp only at h ⊢ <;> first
          | exact rest h
          | (cases h; exact Sm.pure (r1.le l2))
      · cases h
    · cases h

theorem marked_eq : ∀ (ops : List CmpOp) {es : List Expr}, es.any isSetX = false → markedEach ops es (evalEach es env) = evalEach es env
  | [], es, _ => by cases es <;> rfl
  | [op], [], _ => rfl
  | [op], [e], h => by
    rw [List.any_cons, Bool.or_eq_false_iff] at h
    show [markedBehindIn op e (eval e env)] = [eval e env]
    unfold markedBehindIn
    have : behindInMarks op e = false := by cases e <;> first | rfl | exact absurd h.1 (by simp [isSetX])
    rw [this]
  | [op], e :: e' :: es, h => by
    rw [List.any_cons, Bool.or_eq_false_iff] at h
    show eval e env :: markedEach [] (e' :: es) (evalEach (e' :: es) env) = _
    rw [marked_eq [] h.2]; rfl
  | op :: op' :: ops, [], _ => rfl
  | op :: op' :: ops, e :: es, h => by
    rw [List.any_cons, Bool.or_eq_false_iff] at h
    show eval e env :: markedEach (op' :: ops) es (evalEach es env) = _
    rw [marked_eq (op' :: ops) h.2]; rfl

theorem room_units {n : Nat} {A : Around} (h : Rm (n + 1) A) : A.units + 10 < 9900 := by have := h.units; omega

theorem chain_sound (O : B.Ok) (hr : Snd B n r) (hA : Rm (n + 1) A) {pos : Pos} : ∀ {ops : List CmpOp} {es : List Expr} {v : V} {c : Value} {b : Bool} {H H' : Hp} {W : OM}, FrameOk W env sc ρ φ → VR W v c → chain B.K (r.ev sc ρ φ) v ops es H = some (b, H') →
    Sm B A W H (compareChain pos c ops (evalEach es env)) RB b H' ∧ Sm B A W H (testChain pos c ops (evalEach es env)) REq b H'
  | [], es, v, c, b, H, H', W, F, rv, h => by cases h
  | [op], [], v, c, b, H, H', W, F, rv, h => by cases h
  | [op], [e], v, c, b, H, H', W, F, rv, h => by
    unfold chain at h
    split at h
    · rename_i v1 H1 h1
      split at h
      · rename_i b' hb
        cases h
        constructor
        · exact Sm.bind (hr.ev h1 hA.less F).held fun W1 c1 l1 r1 => Sm.at (Sm.operate (cmp_sound O (rv.le l1) r1 hb (room_units hA)))
        · refine Sm.bind (hr.ev h1 hA.less F).held fun W1 c1 l1 r1 => Sm.at (Sm.bind (Sm.operate (cmp_sound O (rv.le l1) r1 hb (room_units hA))) fun W2 c2 l2 e2 => ?_)
          cases e2
          exact Sm.held fun E Q s S q => wpAny_truthy_bool (q _ _ _ (Le.refl _) S rfl)
      · cases h
    · cases h
  | [op], e :: e' :: es, v, c, b, H, H', W, F, rv, h => by
    unfold chain at h
    split at h
    · rename_i v1 H1 h1
      split at h
      · cases h
      · rename_i hb
        cases h
        constructor
        · refine Sm.bind (hr.ev h1 hA.less F).held fun W1 c1 l1 r1 => Sm.at (Sm.bind (cmp_sound O (rv.le l1) r1 hb (room_units hA)).held fun W2 c2 l2 e2 => ?_)
          cases e2
          intro E Q s S q
          refine wpAny_bind (wp_release (wpAny_bind (wpAny_holding (wpAny_truthy_bool ?_))))
          simp only [Bool.false_eq_true, if_false]
          exact wpAny_pure (q _ _ _ (Le.refl _) S rfl)
        · refine Sm.bind (hr.ev h1 hA.less F).held fun W1 c1 l1 r1 => Sm.at (Sm.bind (cmp_sound O (rv.le l1) r1 hb (room_units hA)).held fun W2 c2 l2 e2 => ?_)
          cases e2
          intro E Q s S q
          refine wpAny_bind (wp_release (wpAny_bind (wpAny_holding (wpAny_truthy_bool ?_))))
          simp only [Bool.false_eq_true, if_false]
          exact wpAny_pure (q _ _ _ (Le.refl _) S rfl)
      · cases h
    · cases h
  | op :: op' :: ops, [], v, c, b, H, H', W, F, rv, h => by cases h
  | op :: op' :: ops, e :: es, v, c, b, H, H', W, F, rv, h => by
    unfold chain at h
    split at h
    · rename_i v1 H1 h1
      split at h
      · rename_i hb
        have ih : ∀ {W2 : OM} {c1 : Value}, Le W W2 → VR W2 v1 c1 → _ := fun {W2 c1} l r1 => chain_sound O hr hA (pos := pos) (F.le l) r1 h
        constructor
        · refine Sm.bind (hr.ev h1 hA.less F).held fun W1 c1 l1 r1 => Sm.at (Sm.bind (cmp_sound O (rv.le l1) r1 hb (room_units hA)).held fun W2 c2 l2 e2 => ?_)
          cases e2
          intro E Q s S q
          refine wpAny_bind (wp_release (wpAny_bind (wpAny_holding (wpAny_truthy_bool ?_))))
          simp only [if_true]
          exact (ih (l1.trans l2) (r1.le l2)).1 E Q s S q
        · refine Sm.bind (hr.ev h1 hA.less F).held fun W1 c1 l1 r1 => Sm.at (Sm.bind (cmp_sound O (rv.le l1) r1 hb (room_units hA)).held fun W2 c2 l2 e2 => ?_)
          cases e2
          intro E Q s S q
          refine wpAny_bind (wp_release (wpAny_bind (wpAny_holding (wpAny_truthy_bool ?_))))
          simp only [if_true]
          exact (ih (l1.trans l2) (r1.le l2)).2 E Q s S q
      · rename_i hb
        cases h
        constructor
        · refine Sm.bind (hr.ev h1 hA.less F).held fun W1 c1 l1 r1 => Sm.at (Sm.bind (cmp_sound O (rv.le l1) r1 hb (room_units hA)).held fun W2 c2 l2 e2 => ?_)
          cases e2
          intro E Q s S q
          refine wpAny_bind (wp_release (wpAny_bind (wpAny_holding (wpAny_truthy_bool ?_))))
          simp only [Bool.false_eq_true, if_false]
          exact wpAny_pure (q _ _ _ (Le.refl _) S rfl)
        · refine Sm.bind (hr.ev h1 hA.less F).held fun W1 c1 l1 r1 => Sm.at (Sm.bind (cmp_sound O (rv.le l1) r1 hb (room_units hA)).held fun W2 c2 l2 e2 => ?_)
          cases e2
          intro E Q s S q
          refine wpAny_bind (wp_release (wpAny_bind (wpAny_holding (wpAny_truthy_bool ?_))))
          simp only [Bool.false_eq_true, if_false]
          exact wpAny_pure (q _ _ _ (Le.refl _) S rfl)
      · cases h
    · cases h

theorem compare_sound (O : B.Ok) (hr : Snd B n r) (hA : Rm (n + 1) A) (F : FrameOk W env sc ρ φ) {pos : Pos} {l : Expr} {ops : List CmpOp} {es : List Expr} {b : Bool} (h : compareV B.K (r.ev sc ρ φ) l ops es H = some (b, H')) :
    Sm B A W H (do compareChain pos (← eval l env) ops (markedEach ops es (evalEach es env))) RB b H' ∧ Sm B A W H (do testChain pos (← eval l env) ops (markedEach ops es (evalEach es env))) REq b H' := by
  unfold compareV at h
  split at h
  · rename_i v1 H1 h1
    split at h
    · cases h
    · rename_i hs
      rw [marked_eq ops (Bool.not_eq_true _ ▸ hs : es.any isSetX = false)]
      constructor
      · exact Sm.bind (hr.ev h1 hA.less F) fun W1 c1 l1 r1 => (chain_sound O hr hA (F.le l1) r1 h).1
      · exact Sm.bind (hr.ev h1 hA.less F) fun W1 c1 l1 r1 => (chain_sound O hr hA (F.le l1) r1 h).2
  · cases h

theorem part_sound (hr : Snd B n r) (hA : Rm n A) (F : FrameOk W env sc ρ φ) {e : Option Expr} {k : Option Int} (h : partE (r.ev sc ρ φ) e H = some (k, H')) : Sm B A W H (valueOrNone (evalOpt e env)) (fun _ k x => IsPart x k) k H' := by
  unfold partE at h
  split at h
  · cases h
    exact Sm.pure .none
  · split at h
    · rename_i v1 H1 h1
      split at h
      · rename_i k' hk
        cases h
        refine Sm.mono (hr.ev h1 hA F) fun W1 c1 l1 r1 => ?_
        unfold partO at hk
        split at hk
        · cases hk; cases r1; exact .none
        · cases hk; cases r1; exact .int _ _
        · cases hk
      · cases h
    · cases h
end
end Mini
namespace Mini
open PySem PySem.W PySem.W.X PySem.Calls PyProof.Rows Builtin

section
variable {B : Base} {A : Around} {W W' : OM} {H H' H'' : Hp} {env : Env} {sc : Scope} {ρ ρ' ρ'' φ : Loc} {s : Shared} {v u : V} {c d : Value} {n : Nat} {r : Rec} {α β γ δ : Type}

theorem subs_false (slice : Expr) (o i : Value) : ∃ ops, subscripted slice false o i = operate ops (PySem.getItem o i) := by
  unfold subscripted
  split
  · exact ⟨_, rfl⟩
  · rename_i h; cases h
  · exact ⟨_, rfl⟩
theorem subs_true (slice : Expr) (o i : Value) : (∃ ops, subscripted slice true o i = operate ops (PySem.getItem o i)) ∨ subscripted slice true o i = runValue (.builtin "lifetime.subscript" ⟨[o, i], []⟩) := by
  unfold subscripted
  split
  · exact .inl ⟨_, rfl⟩
  · exact .inr rfl
  · rename_i h; cases h

theorem item_type (O : B.Ok) {o i : V} {oc : Value} (ro : VR W o oc) (h : getItem B.K r o i H = some (v, H')) :
    (∃ j C fs f, o = .ref j ∧ H[j]? = some (.inst C fs) ∧ methIn B.K C "__getitem__" = some f ∧ r.call (.stat f) [.ref j, i] [] H = some (v, H')) ∨ ∀ s, Sim B W H s → ∃ T id, s.TypeIs oc T ∧ typeLookup (.type T) "__getitem__" = pure (some (.builtin id)) := by
  have lst : ∀ {xs : List V}, listOf B.K H o = some xs → ∀ s, Sim B W H s → ∃ T id, s.TypeIs oc T ∧ typeLookup (.type T) "__getitem__" = pure (some (.builtin id)) := by
    intro xs hl s S
    obtain ⟨l, cvs, k, rfl, g, z⟩ := listOf_sound O S ro hl
    exact ⟨"list", _, ⟨_, g, rfl⟩, slot_list_getitem.lookup⟩
  have dct : ∀ {kvs : List (Int × V)}, dictOfV B.K H o = some kvs → ∀ s, Sim B W H s → ∃ T id, s.TypeIs oc T ∧ typeLookup (.type T) "__getitem__" = pure (some (.builtin id)) := by
    intro kvs hl s S
    obtain ⟨l, es, k, rfl, g, z⟩ := dictOf_sound O S ro hl
    exact ⟨"dict", _, ⟨_, g, rfl⟩, slot_dict_getitem.lookup⟩
  have lastl : getItemL B.K r o i H = some (v, H') → (∃ j C fs f, o = .ref j ∧ H[j]? = some (.inst C fs) ∧ methIn B.K C "__getitem__" = some f ∧ r.call (.stat f) [.ref j, i] [] H = some (v, H')) ∨ ∀ s, Sim B W H s → ∃ T id, s.TypeIs oc T ∧ typeLookup (.type T) "__getitem__" = pure (some (.builtin id)) := by
    clear h
    intro h
    unfold getItemL at h
    split at h
    · rename_i xs hl
      exact .inr (lst hl)
    · split at h
      · rename_i j _
        split at h
        · rename_i C fs hj
          split at h
          · rename_i f hf
            split at h
            · exact .inl ⟨j, C, fs, f, rfl, hj, hf, h⟩
            · cases h
          · cases h
        · split at h
          · rename_i hd; exact .inr (dct hd)
          · cases h
      · split at h
        · rename_i hd; exact .inr (dct hd)
        · cases h
      · cases h
  unfold getItem at h
  split at h
  · refine .inr fun s S => ?_
    cases ro with
    | tup e z => exact ⟨"tuple", _, ⟨_, S.fro _ _ e, rfl⟩, PyProof.Rows.slot_tuple_getitem.lookup⟩
  · refine .inr fun s S => ?_
    cases ro with
    | tup e z => exact ⟨"tuple", _, ⟨_, S.fro _ _ e, rfl⟩, PyProof.Rows.slot_tuple_getitem.lookup⟩
  · refine .inr fun s S => ?_
    cases ro
    exact ⟨"bytes", _, typeIs_bytes _ _ _, FB.slot_bytes_getitem.lookup⟩
  · refine .inr fun s S => ?_
    cases ro
    exact ⟨"bytes", _, typeIs_bytes _ _ _, FB.slot_bytes_getitem.lookup⟩
  · refine .inr fun s S => ?_
    cases ro
    exact ⟨"str", _, typeIs_str _ _ _, PySem.F.slot_str_getitem.lookup⟩
  · exact lastl h

theorem subscript_sound (O : B.Ok) (hr : CallS B n r) (hA : Rm (n + 1) A) {o i : V} {oc ic : Value} {value slice : Expr} (ro : VR W o oc) (ri : VR W i ic) (h : getItem B.K r o i H = some (v, H')) : Sm B A W H (subscriptTail value slice oc ic) VR v H' := by
  intro E Q s S q
  have fin : ∀ {ops : List Value}, wpAny B.m A (operate ops (PySem.getItem oc ic)) (fun r s₃ => wpAny B.m A (letTemporaryGo value oc r >>= fun _ => pure r) Q E s₃) E s := fun {ops} =>
    (Sm.operate (getItem_sound O hr hA ro ri h)) E _ s S fun c s' W' l S' rc => wpAny_bind (wpAny_letTemporaryGo (wpAny_pure (q c s' W' l S' rc)))
  rcases item_type O ro h with ⟨j, C, fs, f, rfl, hj, hm, hc⟩ | ht
  · cases ro with
    | @ref _ a e =>
      obtain ⟨h1, h2, h3⟩ := methIn_of hm
      obtain ⟨d, es, m, e1, e2, e3, e4, I⟩ := inst_at S e hj
      have X := S.kin O
      obtain ⟨c0, d0, fd, sl, hf⟩ := fn_look h2
      unfold subscriptTail getitemInPython
      refine wpAny_bind (wpAny_bind (wpAny_bind (I.type.here ((looks_findIn X h1).here ?_))))
      dsimp only
      refine wpAny_bind (wpAny_load (X _ _ hf) (wpAny_pure ?_))
      dsimp only
      rcases subs_true slice (.ref a) ic with ⟨ops, hs⟩ | hs
      · rw [hs]
        exact wpAny_bind fin
      · rw [hs]
        refine wpAny_bind (wpAny_runValue (codeAny_builtin entry_sub ?_))
        unfold Builtin.«lifetime.subscript»
        have := (hr (A := A.in1) (kcs := []) hc hA.in1 (meth_vr O S h3) (.cons (.ref e) (.cons ri .nil)) trivial).sm
        refine wpAny_bind (special_fn X I h1 (beq_iff_eq.mp h3) (this _ _ s S fun c s' W' l S' rc => ?_))
        refine wpAny_pure ?_
        show wpAny B.m A (letTemporaryGo value (.ref a) c >>= fun _ => pure c) Q E s'
        exact wpAny_bind (wpAny_letTemporaryGo (wpAny_pure (q c s' W' l S' rc)))
  · obtain ⟨T, id, hT, hl⟩ := ht s S
    unfold subscriptTail
    refine wpAny_bind ?_
    rw [getitemInPython_of_ne hT.not_modules]
    refine wpAny_bind (wpAny_specialOf hT hl ?_)
    obtain ⟨ops, hs⟩ := subs_false slice oc ic
    have fin' : wpAny B.m A (subscripted slice false oc ic) (fun r s₃ => wpAny B.m A (letTemporaryGo value oc r >>= fun _ => pure r) Q E s₃) E s := by rw [hs]; exact fin
    first
      | exact wpAny_pure (wpAny_bind fin')
      | exact wpAny_bind (wpAny_pure (wpAny_bind fin'))
      | exact wpAny_bind fin'

/-! calls -/
theorem keeps_V (O : B.Ok) {f : V} {fc : Value} (rf : VR W f fc) (hk : (∃ t, f = .type t) ∨ (∃ t, f = .bi t) ∨ ∃ a, f = .stat a ∧ keepIn B.K (.ref a) = true) : ∀ h : Heap, B.K.In h → ∃ k, (k = Keeper.frame ∨ k = Keeper.machine ∨ k = Keeper.boundFrame) ∧ Looks B.m h (keeperOf fc) k := by
  intro h X
  rcases hk with ⟨t, rfl⟩ | ⟨t, rfl⟩ | ⟨a, rfl, hk⟩
  · cases rf; exact ⟨.machine, .inr (.inl rfl), Looks.of_pure rfl⟩
  · cases rf; exact ⟨.machine, .inr (.inl rfl), Looks.of_pure rfl⟩
  · cases rf; exact keeps_K hk h X

theorem star_plain {pos : Pos} : ∀ {es : List Expr}, es.any isStar = false → (backTo pos (starEach es env)).any (·.1) = false
  | [], _ => rfl
  | e :: es, h => by
    rw [List.any_cons, Bool.or_eq_false_iff] at h
    have he : starEach (e :: es) env = (false, eval e env) :: starEach es env := by
      cases e <;> first | rfl | (exact absurd h.1 (by simp [isStar]))
    rw [he]
    show (false || (backTo pos (starEach es env)).any (·.1)) = false
    rw [star_plain h.2]; rfl

/-- the arguments are gone through, then the call is made -/
theorem callWith_sound (O : B.Ok) (hr : Snd B n r) (hA : Rm n A) (F : FrameOk W env sc ρ φ) {pos cpos : Pos} {fc : Value} {first : List Value} {args : List Expr} {kws : List Keyword} {vs : List V} {kv : List (Str × V)} {H1 H2 : Hp}
    (hs : args.any isStar = false) (hk : ∀ h : Heap, B.K.In h → ∃ k, (k = Keeper.frame ∨ k = Keeper.machine ∨ k = Keeper.boundFrame) ∧ Looks B.m h (keeperOf fc) k)
    (ha : evs (r.ev sc ρ φ) args H = some (vs, H1)) (hkw : evk (r.ev sc ρ φ) kws H1 = some (kv, H2))
    (hc : ∀ W' acs kcs, Le W W' → VRs W' vs acs → KwR W' kv kcs → Sm B A W' H2 (call fc (first ++ acs) kcs) VR v H') :
    Sm B A W H (callWith cpos fc first (backTo pos (starEach args env)) (backToKw pos (keywordEach kws env))) VR v H' := by
  obtain ⟨hn1, hn2⟩ := evk_named hkw
  obtain ⟨k1, k2, k3⟩ := kw_shape (env := env) (pos := pos) hn1
  intro E Q s S q
  refine callWith_of (P := B.K.In) (by rw [star_plain hs, k2]; rfl) hk ?_
  have main : wpAny B.m A (spliced (backTo pos (starEach args env))) (fun vs' s₁ => wpAny B.m A (evalAll ((backToKw pos (keywordEach kws env)).map (·.2))) (fun ks s₂ => B.K.In s₂.heap ∧ wpAny B.m A (call fc (first ++ vs') (((backToKw pos (keywordEach kws env)).filterMap (·.1)).zip ks)) Q E s₂) E s₁) E s := by
    refine spliced_sound hr hA F hs ha E _ s S fun acs s1 W1 l1 S1 z1 => ?_
    refine evalKw_sound hr hA (F.le l1) hkw E _ s1 S1 fun ks s2 W2 l2 S2 z2 => ⟨S2.kin O, ?_⟩
    rw [k3]
    exact hc W2 acs _ (l1.trans l2) (z1.le l2) (KwR.of hn2 z2) E Q s2 S2 fun c s' W' l S' rc => q c s' W' ((l1.trans l2).trans l) S' rc
  cases args with
  | nil =>
    cases ha
    refine evalArgs_kw2_nil k1 ?_
    refine evalKw_sound hr hA F hkw E _ s S fun ks s2 W2 l2 S2 z2 => ⟨S2.kin O, ?_⟩
    rw [k3]
    exact hc W2 [] _ l2 .nil (KwR.of hn2 z2) E Q s2 S2 fun c s' W' l S' rc => q c s' W' (l2.trans l) S' rc
  | cons e es =>
    have he : starEach (e :: es) env = (false, eval e env) :: starEach es env := by
      rw [List.any_cons, Bool.or_eq_false_iff] at hs
      cases e <;> first | rfl | (exact absurd hs.1 (by simp [isStar]))
    exact evalArgs_kw2 k1 main he
end
end Mini
namespace Mini
open PySem PySem.W PySem.W.X PySem.Calls PyProof.Rows Builtin

section
variable {B : Base} {A : Around} {W W' : OM} {H H' H'' : Hp} {env : Env} {sc : Scope} {ρ ρ' ρ'' φ : Loc} {s : Shared} {v u : V} {c d : Value} {n : Nat} {r : Rec} {α β γ δ : Type}

/-- what is owned stands, all else may change -/
theorem Sim.keep (S : Sim B W H s) {s' : Shared} (k : ∀ b o, (∃ x, W b = some x) → s.heap.get? b = some o → s'.heap.get? b = some o) (ho : s'.os = s.os) (g : AllBare s'.gens) : Sim B W H s' := by
  have kk : ∀ b x, W b = some x → s'.heap.get? b = s.heap.get? b := fun b x e => by
    obtain ⟨o, h⟩ := S.there e
    rw [h]; exact k b o ⟨x, e⟩ h
  exact S.grow (Le.refl W).live (fun _ _ e => e) (Nat.le_refl _) (fun _ _ _ e => e) (fun b x e => .inr (kk b x e)) (fun _ _ e => .inl e) (fun b o e _ => kk b _ e) ho g

/-- a code is entered in its table -/
theorem Sim.newcode (S : Sim B W H s) {P : Addr} {ps : Array Value} (hP : W P = some (.tab ps)) {h' : Heap} (hx : Heap.ExtBut P s.heap h') {more : Array Value} (hg : h'.get? P = some (tableObj (ps ++ more))) (ht : TriplesOk (ps ++ more).toList) (tk : Nat) :
    Sim B W H { s with heap := h', toks := tk } := by
  have ne : ∀ {a : Addr} {x : Own}, W a = some x → (∀ qs, x ≠ .tab qs) → a ≠ P := fun e hn q => by rw [q, hP] at e; cases e; exact hn _ rfl
  refine ⟨S.base, fun a o e => hx a o (ne e (by intro q z; cases z)) (S.fro a o e), fun a o e => hx a o (ne e (by intro q z; cases z)) (S.prv a o e), fun a i e => ?_, fun a i e => ?_, S.inj, S.dlt, fun a qs e => ?_, S.ctab, S.os, S.gens⟩
  · obtain ⟨o, h1, c⟩ := S.obj a i e
    exact ⟨o, h1, c.live (Le.refl W).live (fun x z => hx a x (ne e (by intro q z; cases z)) z) fun d x z r => hx d x (ne z (by intro q z; cases z)) r⟩
  · obtain ⟨o, z⟩ := S.dct a i e
    exact ⟨o, hx a o (ne e (by intro q z; cases z)) z⟩
  · by_cases q : a = P
    · subst q
      rw [hP] at e; cases e
      exact ⟨(S.tab a ps hP).1, more, hg, ht⟩
    · obtain ⟨c, m, z, t⟩ := S.tab a qs e
      exact ⟨c, m, hx a _ q z, t⟩

theorem isCode_of {o : Obj} {h : Heap} {c P : Addr} {qs : Array Value} (e : codeTab o = some P) (hc : h.get? c = some o) (hP : h.get? P = some (tableObj qs)) (ht : TriplesOk qs.toList) (ne : c ≠ P) : h.IsCode c P qs ∧ h.TableAt c P qs := by
  unfold codeTab at e
  split at e
  · rename_i t d vs sl
    split at e
    · rename_i htc
      obtain rfl : t = "code" := eq_of_beq htc
      split at e
      · rename_i P' f1 f2 k1 k2 b1 k3 k4 g1 g2 g3 g4 g5
        cases e
        have g11 : vs[11]? = some (.ref P) := by
          rw [Array.getD_eq_getD_getElem?] at g1
          cases q : vs[11]? with
          | none => rw [q] at g1; cases g1
          | some y => rw [q] at g1; exact congrArg some g1
        exact ⟨⟨_, vs, _, _, _, _, _, _, _, _, hc, rfl, g1, g2, g3, g4, g5, hP, rfl, ht, ne⟩, ⟨_, vs, hc, rfl, rfl, g11⟩, hP⟩
      · cases e
    · cases e
  · cases e

theorem Sim.bmod (S : Sim B W H s) {mg : Str → Option Value} {bm : Addr} {ob : Obj} (x : BMod B.h₀ mainGlobals mg bm ob) : BMod s.heap mainGlobals mg bm ob := by
  refine ⟨S.ns x.ns, x.name, x.ne, ?_, x.cls, x.dict, x.data⟩
  rcases S.base _ _ x.obj with q | ⟨ps, c, e, _⟩
  · exact S.fro _ _ q
  · have := x.cls; rw [e] at this; cases this

/-- x in NAME, in the generator's frame -/
theorem elt_sound {prog : Program} {w : World} {A : Around} {E : Value → Shared → Prop} {cenv : Env} {x y : Str} {px py pos : Pos} {m₂ mg : Str → Option Value} {s₂ : Shared} {c : UInt8} {k : Tok} {b : Array UInt8} {t : Tok} (hk : cenv.scope.kind = .function) (h1 : cenv.kindOf x = some .local) (h2 : cenv.kindOf y = some .globalImplicit)
    (hx : (x == ("__debug__" : Str)) = false) (hy : (y == ("__debug__" : Str)) = false) (hn : s₂.heap.Ns cenv.locals m₂) (hv : m₂ x = some (.int (c.toNat : Int) k)) (hg : s₂.heap.Ns cenv.globals mg) (hb : mg y = some (.bytes b t)) {Q : Value → Shared → Prop} (q : Q (.bool (b.contains c)) s₂) :
    wpAny (model prog w) A (eval (.Compare (.Name x px) [.In] [.Name y py] pos) cenv) Q E s₂ := by
  rw [arm_eval_Compare]
  have e1 : markedEach [CmpOp.In] [Expr.Name y py] (evalEach [Expr.Name y py] cenv) = [eval (.Name y py) cenv] := by
    rw [marked_eq _ rfl]; rfl
  rw [e1, arm_eval_Name, arm_eval_Name, hx, hy]
  simp only [Bool.false_eq_true, if_false]
  refine wpAny_bind (wpAny_bind (wpAny_standAt (wpAny_loadName_local hk h1 hn hv ?_)))
  unfold compareChain
  refine wpAny_bind (wpAny_holding (wpAny_bind (wpAny_standAt ?_)))
  have : loadName cenv y = loadGlobal cenv y := by
    unfold loadName
    simp only [Env.blockKind, hk, h2, ScopeKind.isAnnotationScope, Bool.false_and, Bool.false_eq_true, if_false]
  rw [this]
  refine Calls.loadGlobal_global hg hb ?_
  refine wpAny_bind (wpAny_standAt (wpAny_operating ?_))
  refine in_gives (typeIs_bytes _ _ _) FB.slot_bytes_contains FB.entry_bytes_contains (FB.args_bytes_contains_2 _ _) (gives_bytes_contains b _ t k (by omega) (by have := c.toNat_lt; omega)) ?_
  have e2 : ((c.toNat : Int).toNat.toUInt8) = c := by simp
  rw [e2]
  exact q
end
end Mini
namespace Mini
open PySem PySem.W PySem.W.X PySem.Calls PyProof.Rows Builtin

section
variable {B : Base} {A : Around} {W W' : OM} {H H' H'' : Hp} {env : Env} {sc : Scope} {ρ ρ' ρ'' φ : Loc} {s : Shared} {v u : V} {c d : Value} {n : Nat} {r : Rec} {α β γ δ : Type}

theorem callV_sound (O : B.Ok) (hr : Snd B n r) (hA : Rm (n + 1) A) {f : V} {fc : Value} {vs : List V} {kv : List (Str × V)} {acs : List Value} {kcs : List (Str × Value)} (rf : VR W f fc) (za : VRs W vs acs) (zk : KwR W kv kcs) (h : callV B.K r f vs kv H = some (v, H')) : Sm B A W H (call fc acs kcs) VR v H' := by
  unfold callV at h
  split at h
  · split at h
    · rename_i hk
      have : kv = [] := by simpa using hk
      subst this
      have : kcs = [] := by cases kcs with | nil => rfl | cons a b => exact zk.elim
      subst this
      cases rf
      exact bcall_sound O hr.call hA za h
    · cases h
  · split at h
    · rename_i hk
      have : kv = [] := by simpa using hk
      subst this
      have : kcs = [] := by cases kcs with | nil => rfl | cons a b => exact zk.elim
      subst this
      cases rf
      exact tcall_sound O hA.handled za h
    · cases h
  · split at h
    · exact (hr.call h hA.less rf za zk).sm
    · cases h
  · cases h
theorem callV_keeps {f : V} {vs : List V} {kv : List (Str × V)} (h : callV B.K r f vs kv H = some (v, H')) : (∃ t, f = .type t) ∨ (∃ t, f = .bi t) ∨ ∃ a, f = .stat a ∧ keepIn B.K (.ref a) = true := by
  unfold callV at h
  split at h
  · exact .inr (.inl ⟨_, rfl⟩)
  · exact .inl ⟨_, rfl⟩
  · split at h
    · rename_i hk; exact .inr (.inr ⟨_, rfl, hk⟩)
    · cases h
  · cases h

/-- where a method's name leads -/
def MRok (W : OM) (oc : Value) : MR → Value × List Value → Prop
  | .fn f, x => x = (.ref f, [oc])
  | .bm i b, x => x = (.builtin i, [oc])
theorem methRes_sound (O : B.Ok) {o : V} {oc : Value} {name : Str} {m : MR} {pl : Sem Bool} (ro : VR W o oc) (h : methRes B.K H o name = some m) :
    Sm B A W H (getMethod oc name pl) (fun _ (_ : Unit) x => MRok W oc m x) () H ∧ (∀ id b, m = .bm id b → b = true) ∧ (∀ f, m = .fn f → keepIn B.K (.ref f) = true ∧ isFn B.K (.ref f) = true) := by
  have bm : ∀ {id : String} {b : Bool}, bmOf H o name = some (id, b) → Sm B A W H (getMethod oc name pl) (fun _ (_ : Unit) x => MRok W oc (.bm id b) x) () H ∧ (∀ id' b', MR.bm id b = .bm id' b' → b' = true) ∧ (∀ f, MR.bm id b = .fn f → keepIn B.K (.ref f) = true ∧ isFn B.K (.ref f) = true) := by
    intro id b hb
    obtain ⟨h1, h2⟩ := bm_sound O (A := A) (B := B) (pl := pl) ro hb
    exact ⟨h2, fun id' b' e => (by cases e; exact h1), fun f e => by cases e⟩
  unfold methRes at h
  split at h
  · rename_i i
    split at h
    · rename_i C fs hi
      split at h
      · rename_i f hk
        split at h
        · rename_i hf
          split at h
          · rename_i hkeep
            cases h
            unfold attrKind at hk
            split at hk
            · rename_i hg
              obtain ⟨hg, hh⟩ := Bool.and_eq_true_iff.mp hg
              split at hk
              · cases hk
              · rename_i p hfind
                split at hk
                · rename_i hfn
                  cases hk
                  obtain ⟨hfn, hif⟩ := Bool.and_eq_true_iff.mp hfn
                  refine ⟨?_, fun id b e => (by cases e), fun f e => (by cases e; exact ⟨hkeep, hif⟩)⟩
                  cases ro with
                  | @ref _ a e =>
                    intro E Q s S q
                    obtain ⟨d, es, k, e1, e2, e3, e4, I⟩ := inst_at S e hi
                    refine method_fn (S.kin O) I (plainGet_of hg).1 (plainGet_of hg).2 hfind (beq_iff_eq.mp hif) ?_ (q _ s W (Le.refl W) S rfl)
                    show (lookIn name (dictOf es k)).map _ = _
                    rw [lookIn_dict, e4.getL_none hf]; rfl
                · repeat' (split at hk)
                  all_goals cases hk
              · repeat' (split at hk)
                all_goals cases hk
              · cases hk
            · cases hk
          · cases h
        · cases h
      · cases h
    · split at h
      · rename_i hb
        cases h
        exact bm hb
      · cases h
  · split at h
    · rename_i hb
      cases h
      exact bm hb
    · cases h

theorem genV_sound (O : B.Ok) (hr : Snd B n r) (hA : Rm (n + 1) A) (F : FrameOk W env sc ρ φ) {f : Str} {p gp pos : Pos} {elt : Expr} {g : Comprehension} {sc' : Scope} (hn : nameV B.K sc ρ φ f = some (.bi "all")) (h : genV B.K sc ρ φ f elt g sc' H = some (v, H')) :
    Sm B A W H (eval (.Call (.Name f p) [.GeneratorExp elt [g] sc' gp] [] pos) env) VR v H' := by
  unfold genV at h
  split at h
  · rename_i x px y py cpos z pz d pd
    split at h
    · rename_i hok
      simp only [genOk, Bool.and_eq_true, Bool.not_eq_true', beq_iff_eq] at hok
      obtain ⟨⟨⟨⟨⟨⟨⟨⟨⟨⟨hxz, hkind⟩, hco⟩, hnames⟩, h0⟩, hxl⟩, hyl⟩, df⟩, dx⟩, dy⟩, dd⟩ := hok
      subst hxz
      split at h
      · rename_i b a ta hd hy
        cases h
        have hcell : ∀ q ∈ sc'.names, q.2 ≠ .cell ∧ q.2 ≠ .free := fun q hq => by
          have := List.all_eq_true.mp hnames q hq
          simpa using this
        intro E Q s S q
        have e : eval (.Call (.Name f p) [.GeneratorExp (.Compare (.Name x px) [.In] [.Name y py] cpos) [⟨.Name x pz, .Name d pd, [], 0⟩] sc' gp] [] pos) env =
            (do callWith pos (← eval (.Name f p) env) [] (backTo pos (starEach [.GeneratorExp (.Compare (.Name x px) [.In] [.Name y py] cpos) [⟨.Name x pz, .Name d pd, [], 0⟩] sc' gp] env)) (backToKw pos (keywordEach [] env))) := rfl
        rw [e, arm_eval_Name]
        have df : (f == ("__debug__" : Str)) = false := by simpa using df
        have dx : (x == ("__debug__" : Str)) = false := by simpa using dx
        have dy : (y == ("__debug__" : Str)) = false := by simpa using dy
        have dd : (d == ("__debug__" : Str)) = false := by simpa using dd
        rw [df]
        simp only [Bool.false_eq_true, if_false]
        refine wpAny_bind (wpAny_bind (wpAny_standAt (loadName_sound O F hn E _ s S fun fc s1 W1 l1 S1 rf => ?_)))
        cases rf
        have F1 := F.le l1
        refine callWith_of (P := B.K.In) rfl (fun h X => ⟨.machine, .inr (.inl rfl), Looks.of_pure rfl⟩) ?_
        refine evalArgs_kw2 (kws := []) (by rfl) ?_ rfl
        show wpAny _ _ (spliced [(false, eval (.GeneratorExp (.Compare (.Name x px) [.In] [.Name y py] cpos) [⟨.Name x pz, .Name d pd, [], 0⟩] sc' gp) env)]) _ _ _
        refine Calls.spliced_cons ?_
        have hclos := closureFor_sound (env := env) (sc' := sc') (fun q hq hf => absurd hf (hcell q hq).2)
        refine wpAny_GeneratorExp_walksQ hA.handled hco hclos (fun q hq => (hcell q hq).1) h0 hxl hkind (by have := hA.depth; show A.depth < 1000; omega) ?_ (fun x => rfl)
        rw [arm_eval_Name, dd]
        simp only [Bool.false_eq_true, if_false]
        refine wpAny_bind (wpAny_standAt (loadName_sound O F1 hd _ _ s1 S1 fun bc s2 W2 l2 S2 rb => ?_))
        cases rb
        rename_i tb
        have F2 := F1.le l2
        refine KBw.pyIter_bytes ?_
        have S3 := S2.push { cls := .type "bytes_iterator", data := .fields #[.bytes b tb, .int 0 0] } s2.toks
        refine ⟨S3.nolimit O, ?_⟩
        obtain ⟨c, co, P, ps, hcode, hWc, hct, hWP⟩ := F2.code
        obtain ⟨⟨ct, hta⟩, more, hgP, htr⟩ := S3.tab P ps hWP
        have hne : c ≠ P := fun q => by rw [q, hWP] at hWc; cases hWc
        obtain ⟨hIs, hTab⟩ := isCode_of hct (S3.fro _ _ hWc) hgP htr hne
        have hI : ∀ {b' : Addr} {x : Own}, W2 b' = some x → b' < s2.heap.objs.size := fun e => S2.lt e
        have hPlt : P < s2.heap.objs.size := hI hWP
        have key : ∀ (Qc : Value → Shared → Prop), (∀ (code : Value) (h4 : Heap) (tk4 : Nat), Sim B W2 H { s2 with heap := h4, toks := tk4 } → KBw.IsBytesIter h4 s2.heap.objs.size b tb 0 → s2.heap.objs.size < h4.objs.size → Qc code { s2 with heap := h4, toks := tk4 }) →
            wpAny B.m A (genexprCode env gp (env.qual ++ "<genexpr>") sc') Qc E { s2 with heap := s2.heap.push { cls := .type "bytes_iterator", data := .fields #[.bytes b tb, .int 0 0] } } := by
          intro Qc hq
          have hit : KBw.IsBytesIter (s2.heap.push { cls := .type "bytes_iterator", data := .fields #[.bytes b tb, .int 0 0] }) s2.heap.objs.size b tb 0 := ⟨_, Heap.get?_push_size _ rfl, rfl, rfl⟩
          cases hca : codeAmong gp (ps ++ more).toList with
          | some cv => exact wpAny_genexprCode_hit hcode hIs hca (hq cv _ _ S3 hit (by rw [Heap.size_push]; omega))
          | none =>
            refine wpAny_genexprCodeX hcode hIs hTab hca fun c' h4 tk4 hx4 hge hlt hcode4 _ htab4 _ => ?_
            have S4 := S3.newcode hWP hx4 (more := more ++ #[rawInt gp.line, rawInt gp.col, .ref c']) (by rw [← Array.append_assoc]; exact htab4.2) (by
              rw [← Array.append_assoc]
              obtain ⟨_, _, _, _, _, _, _, _, _, _, _, _, _, _, _, _, _, _, _, ht, _⟩ := hcode4
              exact ht) tk4
            refine hq _ h4 tk4 S4 ?_ ?_
            · obtain ⟨o, e1, e2, e3⟩ := hit
              exact ⟨o, hx4 _ _ (Nat.ne_of_gt hPlt) e1, e2, e3⟩
            · rw [Heap.size_push] at hge; omega
        refine key _ fun code h4 tk4 S4 hit hlt4 => ?_
        obtain ⟨mg, bm, ob, M⟩ := O.bmod
        have M4 := S4.bmod M
        rw [F2.globals]
        refine wpAny_builtinsFor M4.ns M4.name M4.ne M4.obj M4.cls M4.dict M4.data ?_
        have hcs : cStatics < s2.heap.objs.size := by obtain ⟨_, hn', _⟩ := S2.nolimit O; exact hn'.lt
        refine ⟨s2.heap.objs.size, [s2.heap.objs.size], [s2.heap.objs.size], b.size, _, _, fun _ => true, fun i v => v = .bool (a.contains (b.getD i 0)), rfl, fun A' hA' => KBw.walks hA' s2.heap.objs.size b tb, hit, fun q hq => by simp at hq; rw [hq]; exact hlt4, S4.nolimit O, fun hm => Nat.lt_irrefl _ ((List.mem_singleton.mp hm) ▸ hcs), fun href hhref => ⟨?_, ?_⟩, fun ga h5 tk gs hgb hag hsz5 hk5 Wk hat => ?_⟩
        · intro A' E' i v s2' m2 _ _ _ _ _
          exact wpAny_pure ⟨rfl, ⟨_, _, rfl, fun _ _ e => e⟩⟩
        · intro A' E' i v s2' m2 hA' hP _ hns hv hk
          obtain ⟨c', k', hc', rfl⟩ := hP
          have hmy : mg y = some (.bytes a ta) := mg_of O.kin M.ns hy
          have g2 := S2.ns M.ns
          have g4 := S4.ns M.ns
          have hgl : s2'.heap.Ns mainGlobals mg := by
            obtain ⟨o, es, ep, ho, hr'⟩ := g4
            refine ⟨o, es, ep, hk _ (List.mem_range.mpr (Heap.lt_size ho)) ?_ _ (hhref _ _ ho), hr'⟩
            intro hm
            have hlt := g2.lt
            rw [List.mem_singleton.mp hm] at hlt
            exact Nat.lt_irrefl _ hlt
          refine elt_sound (cenv := genEnv sc' (clOf env.cells sc'.names []) h4.objs.size code builtinsNs env) (m₂ := m2) (mg := mg) (c := c') hkind hxl hyl dx dy hns hv (by show s2'.heap.Ns env.globals mg; rw [F2.globals]; exact hgl) hmy ⟨?_, ⟨_, _, rfl, fun _ _ e => e⟩⟩
          rw [Array.getD_eq_getD_getElem?, hc']; rfl
        · have S5 : Sim B W2 H ⟨h5, s2.gens.push gs, s2.drawn, tk, s2.os⟩ := S4.keep (fun b' o _ e => hk5 b' o e) rfl (S4.gens.push hgb)
          refine wpAny_pure (wpAny_pure ⟨S5.kin O, ?_⟩)
          have hpass : passing (fun _ => true) b.size 0 = List.range b.size := by simp [passing]
          rw [hpass] at Wk
          refine call_all_walkS (Wk.in4_1.self 0 _ _ _ hat ⟨ga, _, _, _, _, _, _, fun j => a.contains (b.getD j 0), rfl, Wk.in4_1, hat, ?_, fun s' hm => ?_⟩)
          · intro j v s'' Q' E' hF hq
            obtain ⟨i, h1, rfl⟩ := hF
            have : i = j := by
              obtain ⟨hj, h2⟩ := List.getElem?_eq_some_iff.mp h1
              rw [List.getElem_range] at h2
              exact h2.symm
            subst this
            exact wpAny_truthy_bool hq
          · have S6 : Sim B W2 H s' := S5.keep (fun b' o ⟨x', e'⟩ e => hm.heap b' o (by
              have hlt := hI e'
              intro hm'
              rcases List.mem_cons.mp hm' with q1 | q1
              · rw [q1] at hlt; exact Nat.lt_irrefl _ (Nat.lt_trans hlt hlt4)
              · rw [List.mem_singleton.mp q1] at hlt; exact Nat.lt_irrefl _ hlt) e) hm.os (S5.gens.movedS hm)
            have hval : ((List.range (List.range b.size).length).all fun j => a.contains (b.getD j 0)) = b.toList.all fun u => a.contains u := by
              rw [List.length_range, Bool.eq_iff_iff, List.all_eq_true, List.all_eq_true]
              constructor
              · intro h u hu
                obtain ⟨i, hi, rfl⟩ := List.getElem_of_mem hu
                have hi' : i < b.size := by rw [← Array.length_toList]; exact hi
                have := h i (List.mem_range.mpr hi')
                rw [Array.getD_eq_getD_getElem?, Array.getElem?_eq_getElem hi'] at this
                simpa using this
              · intro h i hi
                have hi' : i < b.size := List.mem_range.mp hi
                rw [Array.getD_eq_getD_getElem?, Array.getElem?_eq_getElem hi']
                exact h _ (by simp)
            rw [hval]
            exact q _ s' W2 (l1.trans l2) S6 (.bool _)
      · cases h
    · cases h
  · cases h

theorem base_plain {o : Expr} {name : Str} {whole : Sem Value} (h : plainBase o = true) : attributeBase o name env whole = whole := by
  unfold attributeBase
  split
  · rename_i id p pos
    unfold plainBase at h
    simp [h]
  · rfl

theorem isTrue_other {e : Expr} {whole : Sem Value} (h1 : ∀ x p, e ≠ .UnaryOp .Not x p) (h2 : ∀ op es p, e ≠ .BoolOp op es p) (h3 : ∀ a b d p, e ≠ .IfExp a b d p) (h4 : ∀ l o r p, e ≠ .Compare l o r p) :
    isTrue e env whole = (do let v ← whole; standAt e.pos; holding [v] (PySem.truthy v)) := by
  cases e <;> first
    | rfl
    | exact absurd rfl (h2 _ _ _)
    | exact absurd rfl (h3 _ _ _ _)
    | exact absurd rfl (h4 _ _ _ _)
    | (rename_i op x p; cases op <;> first | rfl | exact absurd rfl (h1 _ _))
end
end Mini
namespace Mini
open PySem PySem.W PySem.W.X PySem.Calls PyProof.Rows Builtin

section
variable {B : Base} {A : Around} {W W' : OM} {H H' H'' : Hp} {env : Env} {sc : Scope} {ρ ρ' ρ'' φ : Loc} {s : Shared} {v u : V} {c d : Value} {n : Nat} {r : Rec} {α β γ δ : Type}

theorem ifexp_sound (hr : Snd B n r) (hA : Rm n A) (F : FrameOk W env sc ρ φ) {R : OM → β → α → Prop} {t : Expr} {x y : Sem α} {b : Bool} {H1 : Hp} {z : β} (ht : r.tr sc ρ φ t H = some (b, H1))
    (h : ∀ W', Le W W' → Sm B A W' H1 (if b = true then x else y) R z H') : Sm B A W H (do if ← isTrue t env (eval t env) then x else y) R z H' := by
  refine Sm.bind (hr.tr ht hA F) fun W1 b' l1 e => ?_
  cases e
  exact h W1 l1

theorem methodCall_eq {o : Expr} {name : Str} {apos pos : Pos} {args : List Expr} {kws : List Keyword} {ov : Value} (hs : args.any isStar = false) (hfew : args.length + kws.length + (if kws.isEmpty then 0 else 1) < 30) (hpos : apos.endLine = pos.line) (hn : allNamed kws = true) :
    methodCall o name apos pos env ov (args.length + kws.length) (backTo pos (starEach args env)) (backToKw pos (keywordEach kws env)) = (do
      let fx ← holding [ov] (getMethod ov name (do return (← importBound o env).getD true))
      callWith pos fx.1 fx.2 (backTo pos (starEach args env)) (backToKw pos (keywordEach kws env))) := by
  obtain ⟨k1, k2, k3⟩ := kw_shape (env := env) (pos := pos) hn
  have e1 : (backTo pos (starEach args env)).all (!·.1) = true := by
    have := star_plain (env := env) (pos := pos) hs
    rw [List.any_eq_false] at this
    rw [List.all_eq_true]
    intro x hx
    simpa using this x hx
  have e2 : (backToKw pos (keywordEach kws env)).isEmpty = kws.isEmpty := by
    cases kws with
    | nil => rfl
    | cons k ks => obtain ⟨a, b, d⟩ := k; rfl
  have hform : methodCallForm (args.length + kws.length) (backTo pos (starEach args env)) (backToKw pos (keywordEach kws env)) = true := by
    unfold methodCallForm
    rw [e1, k1, e2]
    simpa using hfew
  unfold methodCall
  rw [hform]
  unfold calleeOf methodCallPos
  simp only [if_true, Bool.not_true, Bool.false_or, hpos, beq_self_eq_true, pure_bind]

theorem stepEv_sound (O : B.Ok) (hr : Snd B n r) (hA : Rm (n + 1) A) (F : FrameOk W env sc ρ φ) {e : Expr} (h : stepEv B.K r sc ρ φ e H = some (v, H')) : Sm B A W H (eval e env) VR v H' := by
  unfold stepEv at h
  split at h
  · split at h
    · rename_i w hw
      cases h
      rw [arm_eval_Constant]
      exact const_sound hw
    · cases h
  · rename_i x pos
    split at h
    · cases h
    · rename_i hd
      split at h
      · rename_i w hw
        cases h
        rw [arm_eval_Name]
        refine Sm.at ?_
        rw [if_neg hd]
        exact loadName_sound O F hw
      · cases h
  · rw [arm_eval_BoolOp]
    exact boolV_sound O hr hA.less F h
  · rename_i a op b pos
    split at h
    · rename_i x H1 h1
      split at h
      · rename_i y H2 h2
        rw [arm_eval_BinOp]
        refine Sm.bind (hr.ev h1 hA.less F) fun W1 c1 l1 r1 => Sm.bind (hr.ev h2 hA.less (F.le l1)).held fun W2 c2 l2 r2 => Sm.at (Sm.operate ?_)
        exact binop_sound O hr.call hA (r1.le l2) r2 h
      · cases h
    · cases h
  · rename_i op x pos
    split at h
    · rename_i w H1 h1
      rw [arm_eval_UnaryOp]
      refine Sm.bind (hr.ev h1 hA.less F) fun W1 c1 l1 r1 => Sm.at (Sm.held ?_)
      split at h
      · split at h
        · rename_i b hb
          cases h
          exact (unary_sound O (op := .Not) r1).1 hb
        · cases h
      · split at h
        · cases h
          exact (unary_sound O (op := .USub) r1).2 rfl
        · cases h
      · cases h
    · cases h
  · rename_i t a b pos
    rw [arm_eval_IfExp]
    split at h
    · rename_i H1 h1
      exact ifexp_sound hr hA.less F h1 fun W1 l1 => by rw [if_pos rfl]; exact hr.ev h hA.less (F.le l1)
    · rename_i H1 h1
      exact ifexp_sound hr hA.less F h1 fun W1 l1 => by rw [if_neg Bool.false_ne_true]; exact hr.ev h hA.less (F.le l1)
    · cases h
  · rename_i es pos
    split at h
    · cases h
    · rename_i hs
      split at h
      · rename_i vs H1 h1
        rw [arm_eval_List]
        refine Sm.at (Sm.bind (spliced_sound hr hA.less F (Bool.not_eq_true _ ▸ hs) h1) fun W1 cs l1 z1 => ?_)
        intro E Q s S q
        have hz := newL_len h
        exact wpAny_newList (newL_sm S h (by simpa using z1) q) (by rw [← z1.length]; exact sz hz)
      · cases h
  · rename_i es k pos
    split at h
    · cases h
    · rename_i hs
      split at h
      · rename_i vs H1 h1
        split at h
        · rename_i hz
          cases h
          rw [arm_eval_Tuple]
          refine Sm.at (Sm.bind (spliced_sound hr hA.less F (Bool.not_eq_true _ ▸ hs) h1) fun W1 cs l1 z1 => ?_)
          intro E Q s S q
          exact wpAny_newTuple (q _ _ _ (le_put S.push_none) (S.push_fro _ rfl s.toks) (.tup (put_self _ _ _) (z1.le (le_put S.push_none)))) (by rw [← z1.length]; exact sz hz)
        · cases h
      · cases h
  · cases h
    rw [eval_Dict_empty]
    refine Sm.at ?_
    intro E Q s S q
    exact wpAny_newObj_type (q _ _ _ (le_put S.push_none) (S.push_dict s.toks) (.ref (put_self _ _ _))) (by size_fits)
  · rename_i elt g sc' pos
    unfold compV at h
    split at h
    · rename_i hok
      obtain ⟨hok, hasy⟩ := Bool.and_eq_true_iff.mp hok
      split at h
      · rename_i it H1 hit
        split at h
        · rename_i ρe H2 hloop
          cases h
          rw [arm_eval_ListComp]
          intro E Q s S q
          have ha : g.is_async = 0 := eq_of_beq hasy
          show wpAny B.m A (comprehension (.ListComp elt [g] sc' pos) sc' env (firstIterPos [g] pos) (newList []) (firstAsync [g]) (firstIter [g] env)) Q E s
          have e1 : firstAsync [g] = false := by obtain ⟨_, _, _, a⟩ := g; cases ha; rfl
          have e2 : firstIter [g] env = eval g.iter env := by obtain ⟨_, _, _, a⟩ := g; rfl
          rw [e1, e2]
          refine comp_core O hr hA F hok ha hit hloop none S fun s' W' C l S' lw hC hCl hl => ?_
          obtain ⟨o, es, k, e1, e2, e3⟩ := hCl
          refine ⟨_, ⟨o, es, k, S'.prv _ _ e1, e2, e3, fun _ => rfl⟩, fun h' sb => ?_⟩
          have hX : ∀ a ∈ [C], ∃ o, W' a = some (.prv o) := by intro a ha; simp at ha; subst ha; exact ⟨o, e1⟩
          refine q _ _ (drop W' [C]) (fun a x e => ?_) (S'.let hX s'.toks fun b o hb e => (sb.2 b (by simpa using hb)).trans e) (.ref ?_)
          · have : a ∉ [C] := by intro ha; simp at ha; subst ha; rw [hC] at e; cases e
            unfold drop; rw [if_neg this]; exact lw _ _ e
          · exact (lex_drop hX).live.obj hl
        · cases h
      · cases h
    · cases h
  · rename_i l ops rs pos
    split at h
    · rename_i b H1 h1
      cases h
      rw [arm_eval_Compare]
      exact Sm.mono (compare_sound O hr hA F h1).1 fun W' c l r => r.vr
    · cases h
  · rename_i o name apos args kws pos
    split at h
    · rename_i hc
      simp only [callOk, Bool.and_eq_true, Bool.not_eq_true', decide_eq_true_eq, beq_iff_eq] at hc
      obtain ⟨⟨⟨hb, hs⟩, hfew⟩, hpos⟩ := hc
      split at h
      · rename_i ov H1 ho
        split at h
        · rename_i m hm
          split at h
          · rename_i vs H2 ha
            split at h
            · rename_i kv H3 hkw
              rw [arm_eval_Call, base_plain hb]
              refine Sm.bind (hr.ev ho hA.less F) fun W1 oc l1 ro => Sm.at ?_
              obtain ⟨hn1, hn2⟩ := evk_named hkw
              rw [methodCall_eq hs hfew hpos hn1]
              obtain ⟨hm1, hm2, hm3⟩ := methRes_sound O (A := A) (pl := (do return (← importBound o env).getD true)) ro hm
              refine Sm.bind hm1.held fun W2 fx l2 hx => ?_
              cases m with
              | fn f =>
                obtain rfl : fx = (.ref f, [oc]) := hx
                obtain ⟨g1, g2⟩ := hm3 f rfl
                refine callWith_sound O hr hA.less ((F.le l1).le l2) hs (keeps_K g1) ha hkw fun W3 acs kcs l3 za zk => ?_
                intro E Q s S q
                exact (hr.call h hA.less (meth_vr O S g2) (.cons ((ro.le l2).le l3) za) zk).sm E Q s S q
              | bm id b =>
                obtain rfl : fx = (.builtin id, [oc]) := hx
                obtain rfl : b = true := hm2 id b rfl
                dsimp only at h
                split at h
                · rename_i hkv
                  have hkv' : kv = [] := by simpa using hkv
                  subst hkv'
                  refine callWith_sound O hr hA.less ((F.le l1).le l2) hs (fun h X => ⟨.machine, .inr (.inl rfl), Looks.of_pure rfl⟩) ha hkw fun W3 acs kcs l3 za zk => ?_
                  have : kcs = [] := by cases kcs with | nil => rfl | cons a b => exact zk.elim
                  subst this
                  exact mcall_sound O (.cons ((ro.le l2).le l3) za) h
                · cases h
            · cases h
          · cases h
        · cases h
      · cases h
    · cases h
  · rename_i f p elt g sc' gp pos
    split at h
    · rename_i hn
      exact genV_sound O hr hA F hn h
    · cases h
  · rename_i f args kws pos hno1 hno2
    split at h
    · cases h
    · rename_i hs
      split at h
      · rename_i fv H1 hf
        split at h
        · rename_i vs H2 ha
          split at h
          · rename_i kv H3 hkw
            have e : eval (.Call f args kws pos) env = (do callWith pos (← eval f env) [] (backTo pos (starEach args env)) (backToKw pos (keywordEach kws env))) := by
              cases f <;> first | rfl | exact absurd rfl (hno1 _ _ _)
            rw [e]
            refine Sm.bind (hr.ev hf hA.less F) fun W1 fc l1 rf => ?_
            refine callWith_sound O hr hA.less (F.le l1) (Bool.not_eq_true _ ▸ hs) (keeps_V O rf (callV_keeps h)) ha hkw fun W2 acs kcs l2 za zk => ?_
            exact callV_sound O hr hA (rf.le l2) za zk h
          · cases h
        · cases h
      · cases h
  · rename_i o name pos
    split at h
    · rename_i hb
      split at h
      · rename_i ov H1 ho
        rw [arm_eval_Attribute, base_plain hb]
        refine Sm.bind (hr.ev ho hA.less F) fun W1 oc l1 ro => Sm.at (Sm.bind (getAttr_sound O hr.call hA ro h).held fun W2 c2 l2 r2 => ?_)
        intro E Q s S q
        exact wpAny_bind (wpAny_letTemporaryGo (wpAny_pure (q _ _ _ (Le.refl _) S r2)))
      · cases h
    · cases h
  · rename_i o i pos
    split at h
    · rename_i ov H1 ho
      split at h
      · rename_i iv H2 hi
        rw [arm_eval_Subscript]
        refine Sm.bind (hr.ev ho hA.less F) fun W1 oc l1 ro => Sm.bind (hr.ev hi hA.less (F.le l1)).held fun W2 ic l2 ri => Sm.at ?_
        exact subscript_sound O hr.call hA (ro.le l2) ri h
      · cases h
    · cases h
  · rename_i lo hi pos
    split at h
    · rename_i a H1 h1
      split at h
      · rename_i b H2 h2
        cases h
        rw [arm_eval_Slice]
        refine Sm.bind (part_sound hr hA.less F h1) fun W1 c1 l1 r1 => Sm.bind (part_sound hr hA.less (F.le l1) h2).held fun W2 c2 l2 r2 => ?_
        refine Sm.bind (R := fun _ (_ : Unit) x => x = Value.none) (b := ()) (Sm.held (Sm.pure rfl)) fun W3 c3 l3 e3 => ?_
        cases e3
        intro E Q s S q
        exact wpAny_newObj_type (q _ _ _ (le_put S.push_none) (S.push_fro _ rfl s.toks) (.slc (put_self _ _ _) (r1) r2)) (by size_fits)
      · cases h
    · cases h
  · rename_i st pos
    split at h
    · rename_i k H1 h1
      split at h
      · rename_i hk
        subst hk
        cases h
        rw [arm_eval_Slice]
        refine Sm.bind (R := fun _ (_ : Unit) x => x = Value.none) (b := ()) (Sm.pure rfl) fun W1 c1 l1 e1 => ?_
        cases e1
        refine Sm.bind (R := fun _ (_ : Unit) x => x = Value.none) (b := ()) (Sm.held (Sm.pure rfl)) fun W2 c2 l2 e2 => ?_
        cases e2
        refine Sm.bind (hr.ev h1 hA.less ((F.le l1).le l2)).held fun W3 c3 l3 r3 => ?_
        cases r3
        intro E Q s S q
        exact wpAny_newObj_type (q _ _ _ (le_put S.push_none) (S.push_fro _ rfl s.toks) (.rvs (put_self _ _ _))) (by size_fits)
      · cases h
    · cases h
  · cases h
end
end Mini
namespace Mini
open PySem PySem.W PySem.W.X PySem.Calls PyProof.Rows Builtin

section
variable {B : Base} {A : Around} {W W' : OM} {H H' H'' : Hp} {env : Env} {sc : Scope} {ρ ρ' ρ'' φ : Loc} {s : Shared} {v u : V} {c d : Value} {n : Nat} {r : Rec} {α β γ δ : Type}

theorem allTr_and (hr : Snd B n r) (hA : Rm n A) : ∀ {es : List Expr} {b : Bool} {H H' : Hp} {W : OM}, FrameOk W env sc ρ φ → allTr (r.tr sc ρ φ) es H = some (b, H') → Sm B A W H (allTrue .And es env) REq b H'
  | [], b, H, H', W, F, h => by
    cases h
    rw [arm_allTrue_nil]
    exact Sm.pure rfl
  | e :: es, b, H, H', W, F, h => by
    unfold allTr at h
    rw [arm_allTrue_cons]
    split at h
    · rename_i H1 h1
      refine Sm.bind (hr.tr h1 hA F) fun W1 b' l1 e1 => ?_
      cases e1
      exact allTr_and hr hA (F.le l1) h
    · rename_i H1 h1
      cases h
      refine Sm.bind (hr.tr h1 hA F) fun W1 b' l1 e1 => ?_
      cases e1
      exact Sm.pure rfl
    · cases h
theorem anyTr_or (hr : Snd B n r) (hA : Rm n A) : ∀ {es : List Expr} {b : Bool} {H H' : Hp} {W : OM}, FrameOk W env sc ρ φ → anyTr (r.tr sc ρ φ) es H = some (b, H') → Sm B A W H (allTrue .Or es env) REq b H'
  | [], b, H, H', W, F, h => by
    cases h
    rw [arm_allTrue_nil]
    exact Sm.pure rfl
  | e :: es, b, H, H', W, F, h => by
    unfold anyTr at h
    rw [arm_allTrue_cons]
    split at h
    · rename_i H1 h1
      refine Sm.bind (hr.tr h1 hA F) fun W1 b' l1 e1 => ?_
      cases e1
      exact anyTr_or hr hA (F.le l1) h
    · rename_i H1 h1
      cases h
      refine Sm.bind (hr.tr h1 hA F) fun W1 b' l1 e1 => ?_
      cases e1
      exact Sm.pure rfl
    · cases h

theorem stepTr_sound (O : B.Ok) (hr : Snd B n r) (hA : Rm (n + 1) A) (F : FrameOk W env sc ρ φ) {e : Expr} {b : Bool} (h : stepTr B.K r sc ρ φ e H = some (b, H')) : Sm B A W H (isTrue e env (eval e env)) REq b H' := by
  unfold stepTr at h
  split at h
  · rename_i x pos
    split at h
    · rename_i b1 H1 h1
      cases h
      rw [arm_isTrue_UnaryOp]
      refine Sm.bind (hr.tr h1 hA.less F) fun W1 b' l1 e1 => ?_
      cases e1
      exact Sm.pure rfl
    · cases h
  · rw [arm_isTrue_BoolOp]; exact allTr_and hr hA.less F h
  · rw [arm_isTrue_BoolOp]; exact anyTr_or hr hA.less F h
  · rename_i t x y pos
    rw [arm_isTrue_IfExp]
    split at h
    · rename_i H1 h1
      exact ifexp_sound hr hA.less F h1 fun W1 l1 => by rw [if_pos rfl]; exact hr.tr h hA.less (F.le l1)
    · rename_i H1 h1
      exact ifexp_sound hr hA.less F h1 fun W1 l1 => by rw [if_neg Bool.false_ne_true]; exact hr.tr h hA.less (F.le l1)
    · cases h
  · rw [arm_isTrue_Compare]
    exact (compare_sound O hr hA F h).2
  · rename_i h1 h2 h3 h4 h5
    split at h
    · rename_i v1 H1 he
      split at h
      · rename_i b1 hb
        cases h
        rw [isTrue_other h1 (fun op es p e => by cases op <;> first | exact h2 _ _ e | exact h3 _ _ e) h4 h5]
        refine Sm.bind (hr.ev he hA.less F) fun W1 c1 l1 r1 => Sm.at (truthy_sound O r1 hb).held
      · cases h
    · cases h

/-! statements -/
theorem notInter (F : FrameOk W env sc ρ φ) : interactive env = false := by
  unfold interactive
  rw [F.ekind]; rfl

theorem storeFwd_sound (O : B.Ok) : ∀ {names : List Str} {vs : List V} {cs : List Value} {ρ ρ' : Loc} {W : OM}, FrameOk W env sc ρ φ → VRs W vs cs → (∀ x ∈ names, stores sc x = true) → storeFwd names vs ρ = some ρ' →
    Sx B A W H env sc φ (assignInOrder (names.map fun n => bindName env n) cs) (TT (β := Unit)) () ρ' H
  | [], _, _, ρ, ρ', W, F, .nil, _, h => by
    cases h
    exact Sx.pure F trivial
  | x :: names, _, _, ρ, ρ', W, F, .cons a z, hs, h => by
    unfold storeFwd at h
    exact Sx.bind (bind_sound O F (hs x (.head _)) a).held fun W1 _ l1 F1 _ => storeFwd_sound O F1 (z.live l1.live) (fun y hy => hs y (.tail _ hy)) h
  | [], _, _, ρ, ρ', W, F, .cons a z, _, h => by cases h
  | x :: names, _, _, ρ, ρ', W, F, .nil, _, h => by cases h

theorem local_iff (F : FrameOk W env sc ρ φ) (x : Str) : (env.kindOf x == some .local) = (sc.names.lookup x == some .local) := by
  rw [Bool.eq_iff_iff, beq_iff_eq, beq_iff_eq]
  exact ⟨F.back x, fun h => F.names x _ h⟩
/-- how swapped stores are told -/
theorem swapped_sound (F : FrameOk W env sc ρ φ) {t value : Expr} {w : Option (List Str)} (h : swapped sc t value = some w) :
    swappedStores [t] value env = pure w ∧ ∀ names, w = some names → ∀ x ∈ names, stores sc x = true := by
  have hblock : (env.blockKind != .function) = false := by
    have : env.blockKind = .function := by unfold Env.blockKind; rw [F.ekind]; rfl
    rw [this]; rfl
  have hl := local_iff F
  have none_ok : ∀ names, (none : Option (List Str)) = some names → ∀ x ∈ names, stores sc x = true := fun _ e => by cases e
  unfold swapped at h
  split at h
  · rename_i ts _ _ vs _ _
    unfold swappedStores
    simp only [hblock, Bool.or_false, hl]
    split at h
    · rename_i c1; cases h; exact ⟨if_pos c1, none_ok⟩
    · rename_i c1
      rw [if_neg c1]
      split at h
      · rename_i c2; cases h; exact ⟨if_pos c2, none_ok⟩
      · rename_i c2
        refine (fun (z : _ ∧ _) => ⟨(if_neg c2).trans z.1, z.2⟩) ?_
        dsimp only at h
        split at h
        · rename_i c3; cases h; exact ⟨if_pos c3, none_ok⟩
        · rename_i c3
          refine (fun (z : _ ∧ _) => ⟨(if_neg c3).trans z.1, z.2⟩) ?_
          split at h
          · rename_i c4; cases h; exact ⟨if_pos c4, none_ok⟩
          · rename_i c4
            rw [if_neg c4]
            split at h
            · cases h
            · rename_i c5
              rw [if_neg c5]
              cases h
              refine ⟨rfl, fun names e x hx => ?_⟩
              cases e
              obtain ⟨e, he, hx⟩ := List.mem_filterMap.mp hx
              split at hx
              · split at hx
                · rename_i hc
                  cases hx
                  unfold stores
                  rw [eq_of_beq (Bool.and_eq_true_iff.mp hc).1]
                · cases hx
              · cases hx
  · cases h
  · rename_i hno hno2
    cases h
    refine ⟨?_, none_ok⟩
    unfold swappedStores
    split
    · rename_i hm
      split at hm
      · rename_i h2
        exact (hno2 _ _ _ _ _ _ (List.cons.inj h2).1 rfl).elim
      · rename_i h2
        exact (hno _ _ (List.cons.inj h2).1).elim
      · cases hm
    · rfl
end
end Mini
namespace Mini
open PySem PySem.W PySem.W.X PySem.Calls PyProof.Rows Builtin

section
variable {B : Base} {A : Around} {W W' : OM} {H H' H'' : Hp} {env : Env} {sc : Scope} {ρ ρ' ρ'' φ : Loc} {s : Shared} {v u : V} {c d : Value} {n : Nat} {r : Rec} {α β γ δ : Type}

theorem Rm.mark {A : Around} (h : Rm n A) : Rm n (A.mark none) := ⟨h.depth, h.units, h.handled⟩

/-- all turns of a for -/
theorem for_loop (O : B.Ok) (hr : Snd B n r) (hA : Rm (n + 1) A) {target : Expr} {body : List Stmt} {X : List Addr} {W₀ : OM} {fl : Fl} {ρe : Loc} {He : Hp} (hX : Off env sc [] (· ∈ X)) {R : Result → Shared → Prop}
    (q : ∀ f s' W', LeX (fun a => mine env sc a ∨ a ∈ X) W₀ W' → Sim B W' He s' → FrameOk W' env sc ρe [] → FlR W' fl f → R (.ok f) s') (m : Nat) (it : It) (ρ : Loc) (H : Hp) (W : OM) (s : Shared)
    (hf : forIt B.K (fun v ρ H => match asg B.K r sc [] target v ρ H with
        | some (ρ', H') => r.ex sc ρ' body H'
        | none => none) m it ρ H = some (fl, ρe, He)) (S : Sim B W H s) (F : FrameOk W env sc ρ []) (hit : ItR W it c X) (hl : LeX (fun a => mine env sc a ∨ a ∈ X) W₀ W) :
    codeAny B.m A (.forLoop target c body [] env) R s := by
  let I : Nat → Shared → Prop := fun m s => ∃ it ρ H W, forIt B.K (fun v ρ H => match asg B.K r sc [] target v ρ H with
        | some (ρ', H') => r.ex sc ρ' body H'
        | none => none) m it ρ H = some (fl, ρe, He) ∧ Sim B W H s ∧ FrameOk W env sc ρ [] ∧ ItR W it c X ∧ LeX (fun a => mine env sc a ∨ a ∈ X) W₀ W
  refine codeAny_forLoop_any I (fun m s hI => ?_) m ⟨it, ρ, H, W, hf, S, F, hit, hl⟩
  obtain ⟨it, ρ, H, W, hf, S, F, hit, hl⟩ := hI
  cases m with
  | zero => cases hf
  | succ m =>
    unfold forIt at hf
    split at hf
    · cases hf
    · rename_i hn
      cases hf
      refine next_sound O hA.handled hit hn _ _ s S fun s1 S1 => ?_
      dsimp only
      rw [arm_execs_nil]
      exact wpAny_pure (q .next s1 _ (hl.trans ((lex_drop hit.prv).mono fun a ha => .inr ha)) S1 (F.lex (lex_drop hit.prv) hX) rfl)
    · rename_i w it' hn
      refine next_sound O hA.handled hit hn _ _ s S fun c1 s1 W1 l1 S1 r1 hit1 => ?_
      have F1 := F.lex l1 hX
      have hl1 := hl.trans (l1.mono fun a ha => .inr ha)
      dsimp only
      refine owned_sound hit1 S1 ?_
      have step : ∀ {f : Fl} {ρ3 : Loc} {H3 : Hp}, (match asg B.K r sc [] target w ρ H with
          | some (ρ', H') => r.ex sc ρ' body H'
          | none => none) = some (f, ρ3, H3) → (∀ fc s3 W3, LeX (fun a => mine env sc a ∨ a ∈ X) W₀ W3 → Sim B W3 H3 s3 → FrameOk W3 env sc ρ3 [] → ItR W3 it' c X → FlR W3 f fc → (match fc with
            | .next | .cont => ∃ m', m' < m + 1 ∧ I m' s3
            | .brk => R (.ok .next) s3
            | .ret v => R (.ok (.ret v)) s3)) →
          wpAny B.m A (assign target env c1) (fun _ s₂ => wpAny B.m A (execs body env) (fun f s₃ => match f with
            | .next | .cont => ∃ m', m' < m + 1 ∧ I m' s₃
            | .brk => R (.ok .next) s₃
            | .ret v => R (.ok (.ret v)) s₃) (notedBy B.m A env fun e s' => R (.error e) s') s₂) (notedBy B.m A env fun e s' => R (.error e) s') s1 := by
        intro f ρ3 H3 ht k
        split at ht
        · rename_i ρ2 H2 ha
          refine asg_sound O hr hA F1 r1 ha _ _ s1 S1 fun _ s2 W2 l2 S2 F2 _ => ?_
          refine hr.ex ht hA.less F2 _ _ s2 S2 fun fc s3 W3 l3 S3 F3 rf => ?_
          exact k fc s3 W3 ((hl1.trans (l2.mono fun a ha => .inl ha)).trans (l3.mono fun a ha => .inl ha)) S3 F3 ((hit1.lex l2 fun a ha hm => hX.1 a ha hm).lex l3 fun a ha hm => hX.1 a ha hm) rf
        · cases ht
      split at hf
      · rename_i ρ3 H3 ht
        refine step ht fun fc s3 W3 l3 S3 F3 hit3 rf => ?_
        cases rf
        exact ⟨m, Nat.lt_succ_self m, it', _, _, W3, hf, S3, F3, hit3, l3⟩
      · rename_i ρ3 H3 ht
        refine step ht fun fc s3 W3 l3 S3 F3 hit3 rf => ?_
        cases rf
        exact ⟨m, Nat.lt_succ_self m, it', _, _, W3, hf, S3, F3, hit3, l3⟩
      · rename_i ρ3 H3 ht
        cases hf
        refine step ht fun fc s3 W3 l3 S3 F3 hit3 rf => ?_
        cases rf
        exact q .next s3 W3 l3 S3 F3 rfl
      · rename_i w3 ρ3 H3 ht
        cases hf
        refine step ht fun fc s3 W3 l3 S3 F3 hit3 rf => ?_
        obtain ⟨cv, rfl, rc⟩ := rf
        exact q (.ret cv) s3 W3 l3 S3 F3 ⟨cv, rfl, rc⟩
      · cases hf

theorem while_loop (O : B.Ok) (hr : Snd B n r) (hA : Rm (n + 1) A) {test : Expr} {body : List Stmt} {W₀ : OM} {fl : Fl} {ρe : Loc} {He : Hp} {R : Result → Shared → Prop}
    (q : ∀ f s' W', LeX (mine env sc) W₀ W' → Sim B W' He s' → FrameOk W' env sc ρe [] → FlR W' fl f → R (.ok f) s') (m : Nat) (ρ : Loc) (H : Hp) (W : OM) (s : Shared)
    (hf : whileL (fun ρ H => r.tr sc ρ [] test H) (fun ρ H => r.ex sc ρ body H) m ρ H = some (fl, ρe, He)) (S : Sim B W H s) (F : FrameOk W env sc ρ []) (hl : LeX (mine env sc) W₀ W) :
    codeAny B.m A (.whileLoop test body [] env) R s := by
  let I : Nat → Shared → Prop := fun m s => ∃ ρ H W, whileL (fun ρ H => r.tr sc ρ [] test H) (fun ρ H => r.ex sc ρ body H) m ρ H = some (fl, ρe, He) ∧ Sim B W H s ∧ FrameOk W env sc ρ [] ∧ LeX (mine env sc) W₀ W
  refine codeAny_whileLoop I (fun m s hI => ?_) m ⟨ρ, H, W, hf, S, F, hl⟩
  obtain ⟨ρ, H, W, hf, S, F, hl⟩ := hI
  cases m with
  | zero => cases hf
  | succ m =>
    unfold whileL at hf
    split at hf
    · cases hf
    · rename_i H1 ht
      cases hf
      refine hr.tr ht hA.less F _ _ s S fun b s1 W1 l1 S1 e => ?_
      cases e
      simp only [Bool.false_eq_true, if_false]
      rw [arm_execs_nil]
      exact wpAny_pure (q .next s1 W1 (hl.trans l1.x) S1 (F.le l1) rfl)
    · rename_i H1 ht
      refine hr.tr ht hA.less F _ _ s S fun b s1 W1 l1 S1 e => ?_
      cases e
      simp only [if_true]
      split at hf
      · rename_i ρ3 H3 hb
        refine hr.ex hb hA.less (F.le l1) _ _ s1 S1 fun fc s3 W3 l3 S3 F3 rf => ?_
        cases rf
        exact ⟨m, Nat.lt_succ_self m, _, _, W3, hf, S3, F3, (hl.trans l1.x).trans l3⟩
      · rename_i ρ3 H3 hb
        refine hr.ex hb hA.less (F.le l1) _ _ s1 S1 fun fc s3 W3 l3 S3 F3 rf => ?_
        cases rf
        exact ⟨m, Nat.lt_succ_self m, _, _, W3, hf, S3, F3, (hl.trans l1.x).trans l3⟩
      · rename_i ρ3 H3 hb
        cases hf
        refine hr.ex hb hA.less (F.le l1) _ _ s1 S1 fun fc s3 W3 l3 S3 F3 rf => ?_
        cases rf
        exact q .next s3 W3 ((hl.trans l1.x).trans l3) S3 F3 rfl
      · rename_i w3 ρ3 H3 hb
        cases hf
        refine hr.ex hb hA.less (F.le l1) _ _ s1 S1 fun fc s3 W3 l3 S3 F3 rf => ?_
        obtain ⟨cv, rfl, rc⟩ := rf
        exact q (.ret cv) s3 W3 ((hl.trans l1.x).trans l3) S3 F3 ⟨cv, rfl, rc⟩
      · cases hf
end
end Mini
namespace Mini
open PySem PySem.W PySem.W.X PySem.Calls PyProof.Rows Builtin

section
variable {B : Base} {A : Around} {W W' : OM} {H H' H'' : Hp} {env : Env} {sc : Scope} {ρ ρ' ρ'' φ : Loc} {s : Shared} {v u : V} {c d : Value} {n : Nat} {r : Rec} {α β γ δ : Type}

theorem each_one {t : Expr} (acc : Value) : assignAll acc ((assignEach [t] env).map (·.2)) = assign t env acc ∨ ∃ e p, t = .Starred e p := by
  cases t <;> first | exact .inl rfl | exact .inr ⟨_, _, rfl⟩
theorem asg_star {e : Expr} {p : Pos} : asg B.K r sc φ (.Starred e p) v ρ H = none := rfl

theorem le_lex {X : List Addr} {W W₁ W₂ : OM} (l : Le W W₁) (hX : ∀ a ∈ X, W a = none) (l' : LeX (fun a => mine env sc a ∨ a ∈ X) W₁ W₂) : LeX (mine env sc) W W₂ := fun a x e =>
  (l' a x (l a x e)).imp (fun ⟨ho, hm⟩ => ⟨ho, hm.resolve_right fun h => by rw [hX a h] at e; cases e⟩) id

/-- a comprehension whose list goes straight to a name -/
theorem compUse_sound (O : B.Ok) (hr : Snd B n r) (hA : Rm (n + 1) A) (F : FrameOk W env sc ρ []) {elt : Expr} {g : Comprehension} {sc' : Scope} {pos : Pos} {t : Expr}
    (h : compV B.K r sc ρ [] elt g sc' H = some (v, H')) (ha : asg B.K r sc [] t v ρ H' = some (ρ', H'')) {u : Value → Sem Unit} (hu : ∀ acc, u acc = assign t env acc) :
    Sx B A W H env sc [] (evalThenUse (.ListComp elt [g] sc' pos) env u) (TT (β := Unit)) () ρ' H'' := by
  intro E Q s S q
  unfold compV at h
  split at h
  · rename_i hok
    obtain ⟨hok, hasy⟩ := Bool.and_eq_true_iff.mp hok
    split at h
    · rename_i it H1 hit
      split at h
      · rename_i ρe H2 hloop
        cases h
        rw [arm_evalThenUse_ListComp]
        have hg : g.is_async = 0 := eq_of_beq hasy
        have e1 : firstAsync [g] = false := by obtain ⟨_, _, _, a⟩ := g; cases hg; rfl
        have e2 : firstIter [g] env = eval g.iter env := by obtain ⟨_, _, _, a⟩ := g; rfl
        rw [e1, e2]
        refine wpAny_bind (comp_core (Q := fun _ s' => wpAny B.m A (pure ()) Q E s') O hr hA F hok hg hit hloop (some u) S fun s' W' C l S' lw hC hCl hl => ?_)
        obtain ⟨o, es, k, f1, f2, f3⟩ := hCl
        show wpAny B.m A (u (.ref l)) _ E s'
        rw [hu]
        have hX : ∀ a ∈ [C], W a = none := by intro a ha; simp at ha; subst ha; exact hC
        refine asg_sound O hr hA (F.le lw) (.ref hl) ha E _ s' S' fun _ s2 W2 l2 S2 F2 _ => ?_
        have hoff := F.off hX
        have hC2 : W2 C = some (.prv o) := (l2 _ _ f1).resolve_left fun z => hoff.1 C (by simp) z.2
        refine ⟨_, ⟨o, es, k, S2.prv _ _ hC2, f2, f3, fun _ => rfl⟩, fun h' sb => ?_⟩
        have hX2 : ∀ a ∈ [C], ∃ o, W2 a = some (.prv o) := by intro a ha; simp at ha; subst ha; exact ⟨o, hC2⟩
        refine wpAny_pure (q () _ (drop W2 [C]) ?_ (S2.let hX2 s2.toks fun b o hb e => (sb.2 b (by simpa using hb)).trans e) (F2.lex (lex_drop hX2) hoff) trivial)
        exact le_lex (X := [C]) lw hX ((l2.mono fun a ha => .inl ha).trans ((lex_drop hX2).mono fun a ha => .inr ha))
      · cases h
    · cases h
  · cases h

theorem swaps_plain {value : Expr} {t : Option Expr} {k : Nat} (h1 : ∀ a b d e, value ≠ .ListComp a b d e) (h2 : ∀ a b d e, value ≠ .SetComp a b d e) (h3 : ∀ a b d e f, value ≠ .DictComp a b d e f) : swapsWith value t k env = pure false := by
  cases value <;> first | rfl | exact absurd rfl (h1 _ _ _ _) | exact absurd rfl (h2 _ _ _ _) | exact absurd rfl (h3 _ _ _ _ _)
theorem swaps_list {elt : Expr} {gs : List Comprehension} {sc' : Scope} {pos : Pos} {t : Expr} {k : Nat} : (swapsWith (.ListComp elt gs sc' pos) (some t) k env = pure true ∧ ∃ x p, t = .Name x p) ∨ swapsWith (.ListComp elt gs sc' pos) (some t) k env = pure false := by
  cases t <;> first | exact .inr rfl | skip
  rename_i x p
  have : ∀ b : Bool, (pure b : Sem Bool) = pure true ∨ (pure b : Sem Bool) = pure false := by intro b; cases b; exact .inr rfl; exact .inl rfl
  unfold swapsWith
  exact (this _).imp (fun h => ⟨h, _, _, rfl⟩) id
theorem swapped_list {elt : Expr} {gs : List Comprehension} {sc' : Scope} {pos : Pos} {t : Expr} : swappedStores [t] (.ListComp elt gs sc' pos) env = pure none := by
  cases t <;> rfl

theorem assign_plain (O : B.Ok) (hr : Snd B n r) (hA : Rm (n + 1) A) (F : FrameOk W env sc ρ []) {t value : Expr} {pos : Pos} (hsw : swapsWith value (some t) pos.line env = pure false) (hss : swappedStores [t] value env = pure none)
    (he : Sm B A W H (eval value env) VR v H') (ha : asg B.K r sc [] t v ρ H' = some (ρ', H'')) : Sx B A W H env sc [] (exec (.Assign [t] value pos) env) FlR .next ρ' H'' := by
  rw [arm_exec_Assign]
  refine Sx.at ?_
  have e1 : swapsWithSole [t] value pos.line env = pure false := hsw
  rw [e1, hss]
  simp only [pure_bind, Bool.false_eq_true, if_false]
  refine Sm.bindx he fun W1 c1 l1 r1 => ?_
  show Sx B A W1 H' env sc [] (assignAll c1 ((assignEach [t] env).map (·.2)) >>= fun _ => pure .next) FlR .next ρ' H''
  rcases each_one (env := env) (t := t) c1 with e | ⟨e, p, rfl⟩
  · rw [e]
    exact Sx.bind (asg_sound O hr hA (F.le l1) r1 ha) fun W2 _ l2 F2 _ => Sx.pure F2 rfl
  · cases ha

theorem step1_sound (O : B.Ok) (hr : Snd B n r) (hA : Rm (n + 1) A) (F : FrameOk W env sc ρ []) {st : Stmt} {f : Fl} (h : step1 B.K r sc st ρ H = some (f, ρ', H')) : Sx B A W H env sc [] (exec st env) FlR f ρ' H' := by
  unfold step1 at h
  split at h
  · rename_i e pos
    split at h
    · cases h
    · cases h
    · cases h
    · rename_i h1 h2 h3
      split at h
      · rename_i v1 H1 he
        cases h
        rw [arm_exec_Expr]
        refine Sx.at ?_
        rw [notInter F, swaps_plain (fun a b d e' q => h1 _ _ _ _ q) (fun a b d e' q => h2 _ _ _ _ q) (fun a b d e' f q => h3 _ _ _ _ _ q)]
        simp only [Bool.false_eq_true, if_false, pure_bind]
        refine Sm.bindx (hr.ev he hA.less F) fun W1 c1 l1 r1 => ?_
        exact fun E Q s S q => wpAny_dropValue (q _ s W1 (LeX.refl _) S (F.le l1) rfl)
      · cases h
  · cases h
    rw [arm_exec_Pass]
    exact Sx.at (Sx.pure F rfl)
  · cases h
    rw [arm_exec_Break]
    exact Sx.at (Sx.pure F rfl)
  · cases h
    rw [arm_exec_Continue]
    exact Sx.at (Sx.pure F rfl)
  · cases h
    rw [arm_exec_Return]
    exact Sx.at (Sx.pure F ⟨_, rfl, .none⟩)
  · rename_i e pos
    split at h
    · rename_i v1 H1 he
      cases h
      rw [arm_exec_Return]
      exact Sx.at (Sm.bindx (hr.ev he hA.less F) fun W1 c1 l1 r1 => Sx.pure (F.le l1) ⟨_, rfl, r1⟩)
    · cases h
  · rename_i t value pos
    split at h
    · rename_i elt g sc' cpos
      split at h
      · rename_i v1 H1 hc
        split at h
        · rename_i ρ1 H2 ha
          cases h
          rcases swaps_list (env := env) (elt := elt) (gs := [g]) (sc' := sc') (pos := cpos) (t := t) (k := pos.line) with ⟨hsw, x, p, rfl⟩ | hsw
          · rw [arm_exec_Assign]
            refine Sx.at ?_
            have e1 : swapsWithSole [.Name x p] (.ListComp elt [g] sc' cpos) pos.line env = pure true := hsw
            rw [e1]
            simp only [pure_bind, if_true]
            exact Sx.bind (compUse_sound O hr hA F hc ha fun acc => rfl) fun W1 _ l1 F1 _ => Sx.pure F1 rfl
          · exact assign_plain O hr hA F hsw swapped_list (stepEv_sound O hr hA F (by unfold stepEv; exact hc)) ha
        · cases h
      · cases h
    · cases h
    · cases h
    · cases h
    · rename_i h1 h2 h3 h4
      have hsw : swapsWith value (some t) pos.line env = pure false := swaps_plain (fun a b d e' q => h2 _ _ _ _ q) (fun a b d e' q => h3 _ _ _ _ q) (fun a b d e' f q => h4 _ _ _ _ _ q)
      split at h
      · rename_i hs
        split at h
        · rename_i v1 H1 he
          split at h
          · rename_i ρ1 H2 ha
            cases h
            exact assign_plain O hr hA F hsw (swapped_sound F hs).1 (hr.ev he hA.less F) ha
          · cases h
        · cases h
      · rename_i names hs
        obtain ⟨hss, hst⟩ := swapped_sound F hs
        split at h
        · rename_i vs H1 he
          split at h
          · rename_i hlen
            split at h
            · rename_i ρ1 hsr
              cases h
              rw [arm_exec_Assign]
              refine Sx.at ?_
              have e1 : swapsWithSole [t] value pos.line env = pure false := hsw
              rw [e1, hss]
              simp only [pure_bind, Bool.false_eq_true, if_false]
              refine Sm.bindx (hr.ev he hA.less F) fun W1 c1 l1 r1 => ?_
              show Sx B A W1 H' env sc [] (rule "assign.swapped-stores" >>= fun _ => unpackItems c1 names.length none >>= fun items => assignInOrder (names.reverse.map fun n => bindName env n) items.reverse >>= fun _ => pure .next) FlR .next ρ' H'
              have hu : unpackV B.K H' (.tup vs) names.length = some vs := by
                unfold unpackV
                rw [← hlen]
                exact drawV_all vs
              intro E Q s S q
              refine wpAny_bind (wpAny_rule ?_)
              refine Sm.bindx (unpack_sound O hA.handled r1 hu) (fun W2 cs l2 z2 => ?_) E Q s S q
              exact Sx.bind (storeFwd_sound O ((F.le l1).le l2) z2.reverse (fun x hx => hst names rfl x (by simpa using hx)) hsr) fun W3 _ l3 F3 _ => Sx.pure F3 rfl
            · cases h
          · cases h
        · cases h
      · cases h
  · rename_i x npos op value pos
    split at h
    · rename_i old ho
      split at h
      · rename_i v1 H1 he
        split at h
        · rename_i new H2 hi
          split at h
          · rename_i hst
            cases h
            rw [arm_exec_AugAssign]
            refine Sx.at (Sm.bindx (loadName_sound O F ho) fun W1 c1 l1 r1 => Sm.bindx (hr.ev he hA.less (F.le l1)).held fun W2 c2 l2 r2 => Sx.at ?_)
            refine Sm.bindx (Sm.operate (inop_sound O (r1.le l2) r2 hi)) fun W3 c3 l3 r3 => Sx.at ?_
            exact Sx.bind (bind_sound O (((F.le l1).le l2).le l3) hst r3) fun W4 _ l4 F4 _ => Sx.pure F4 rfl
          · cases h
        · cases h
      · cases h
    · cases h
  · rename_i o a tpos op value pos
    split at h
    · rename_i ov H1 ho
      split at h
      · rename_i old H2 hold
        split at h
        · rename_i v1 H3 he
          split at h
          · rename_i new H4 hi
            split at h
            · rename_i H5 hset
              cases h
              rw [arm_exec_AugAssign_2]
              refine Sx.at (Sm.bindx (hr.ev ho hA.less F) fun W1 oc l1 ro => ?_)
              refine Sm.bindx (R := VR) (b := new) (H' := H4) (Sm.held (Sm.at (Sm.bind (getAttr_sound O hr.call hA ro hold) fun W2 c2 l2 r2 => Sm.bind (hr.ev he hA.less ((F.le l1).le l2)).held fun W3 c3 l3 r3 => Sm.at (Sm.operate (inop_sound O (r2.le l3) r3 hi))))) fun W4 c4 l4 r4 => Sx.at ?_
              refine Sm.bindx (setAttr_sound O hr.call hA (ro.le l4) r4 hset).held fun W5 _ l5 _ => ?_
              refine Sx.bind (release_sx (((F.le l1).le l4).le l5)) fun W6 _ l6 F6 _ => Sx.pure F6 rfl
            · cases h
          · cases h
        · cases h
      · cases h
    · cases h
  · rename_i o i spos op value pos
    split at h
    · cases h
    · rename_i hns
      split at h
      · rename_i ov H1 ho
        split at h
        · rename_i iv H2 hiv
          split at h
          · rename_i old H3 hold
            split at h
            · rename_i v1 H4 he
              split at h
              · rename_i new H5 hi
                split at h
                · rename_i H6 hset
                  cases h
                  rw [arm_exec_AugAssign_3]
                  refine Sx.at (Sm.bindx (hr.ev ho hA.less F) fun W1 oc l1 ro => Sm.bindx (hr.ev hiv hA.less (F.le l1)).held fun W2 ic l2 ri => ?_)
                  have F2 := (F.le l1).le l2
                  refine Sm.bindx (R := VR) (b := new) (H' := H5) (Sm.held (Sm.at (Sm.bind (getItem_sound O hr.call hA (ro.le l2) ri hold) fun W3 c3 l3 r3 => Sm.bind (hr.ev he hA.less (F2.le l3)).held fun W4 c4 l4 r4 => Sm.at (Sm.operate (inop_sound O (r3.le l4) r4 hi))))) fun W5 c5 l5 r5 => Sx.at ?_
                  have ea : augStore i oc ic c5 = (holding [c5, oc, ic] (PySem.setItem oc ic c5) >>= fun _ => release [c5, oc, ic] [] >>= fun _ => pure .next) := by
                    unfold augStore
                    cases i <;> first | rfl | exact absurd rfl hns
                  rw [ea]
                  refine Sm.bindx (setItem_sound O ((ro.le l2).le l5) (ri.le l5) r5 hset).held fun W6 _ l6 _ => ?_
                  refine Sx.bind (release_sx ((F2.le l5).le l6)) fun W7 _ l7 F7 _ => Sx.pure F7 rfl
                · cases h
              · cases h
            · cases h
          · cases h
        · cases h
      · cases h
  · rename_i t a b pos
    rw [arm_exec_If]
    refine Sx.at ?_
    split at h
    · rename_i H1 ht
      refine Sm.bindx (hr.tr ht hA.less F) fun W1 b1 l1 e => ?_
      cases e
      simp only [if_true]
      exact hr.ex h hA.less (F.le l1)
    · rename_i H1 ht
      refine Sm.bindx (hr.tr ht hA.less F) fun W1 b1 l1 e => ?_
      cases e
      simp only [Bool.false_eq_true, if_false]
      exact hr.ex h hA.less (F.le l1)
    · cases h
  · rename_i t body pos
    rw [arm_exec_While]
    refine Sx.at fun E Q s S q => wpAny_runOwn ?_
    exact while_loop O hr hA.mark (fun f s' W' l S' F' rf => q f s' W' l S' F' rf) LF ρ H W s h S F (LeX.refl W)
  · rename_i t iter body pos
    split at h
    · rename_i it H1 hit
      obtain ⟨hfold, v0, hev, hi⟩ := iterOf_sound O hr hA.less F hit
      rw [arm_exec_For]
      refine Sx.at (Sm.bindx (hr.ev hev hA.less F) fun W1 c1 l1 r1 => ?_)
      rw [hfold, pure_bind]
      refine Sx.at ?_
      intro E Q s S q
      refine wpAny_bind (wpAny_holding (iter_sound O r1 hi _ _ s S fun ic s2 W2 X l2 S2 hit2 hX => ?_))
      have F1 := F.le l1
      refine wpAny_runOwn (for_loop O hr hA.mark (F1.off hX) (fun f s' W' l S' F' rf => q f s' W' ?_ S' F' rf) LF it ρ H1 W2 s2 h S2 (F1.le l2) hit2 (LeX.refl W2))
      exact le_lex l2 hX l
    · cases h
  · cases h
end
end Mini
namespace Mini
open PySem PySem.W PySem.W.X PySem.Calls PyProof.Rows Builtin

section
variable {B : Base} {A : Around} {W W' : OM} {H H' H'' : Hp} {env : Env} {sc : Scope} {ρ ρ' ρ'' φ : Loc} {s : Shared} {v u : V} {c d : Value} {n : Nat} {r : Rec} {α β γ δ : Type}

theorem exs_sound (O : B.Ok) (hr : Snd B n r) (hA : Rm (n + 1) A) : ∀ (body : List Stmt) {W : OM} {ρ : Loc} {H : Hp} {f : Fl}, FrameOk W env sc ρ [] → exs (step1 B.K r sc) body ρ H = some (f, ρ', H') → Sx B A W H env sc [] (execs body env) FlR f ρ' H'
  | [], W, ρ, H, f, F, h => by
    cases h
    rw [arm_execs_nil]
    exact Sx.pure F rfl
  | st :: rest, W, ρ, H, f, F, h => by
    rw [arm_execs_cons]
    unfold exs at h
    split at h
    · rename_i ρ1 H1 h1
      refine Sx.bind (step1_sound O hr hA F h1) fun W1 fl l1 F1 e => ?_
      have e : fl = .next := e
      subst e
      exact exs_sound O hr hA rest F1 h
    · rename_i hn
      refine Sx.bind (step1_sound O hr hA F h) fun W1 fl l1 F1 e => ?_
      cases f with
      | next => exact absurd h (hn _ _)
      | brk => have e : fl = .brk := e; subst e; exact Sx.pure F1 rfl
      | cont => have e : fl = .cont := e; subst e; exact Sx.pure F1 rfl
      | ret v =>
        obtain ⟨c, rfl, rc⟩ := e
        exact Sx.pure F1 ⟨c, rfl, rc⟩

theorem step_sound (O : B.Ok) (hr : Snd B n r) : Snd B (n + 1) (step B.K r) where
  ev := fun h hA F => stepEv_sound O hr hA F h
  tr := fun h hA F => stepTr_sound O hr hA F h
  ex := fun h hA F => exs_sound O hr hA _ F h
  call := fun h hA rf za zk => stepCall_sound O hr h hA rf za zk
theorem run_sound (O : B.Ok) : ∀ n, Snd B n (run B.K n)
  | 0 => by
    constructor
    · intro _ _ _ _ _ _ _ _ _ _ h; cases h
    · intro _ _ _ _ _ _ _ _ _ _ h; cases h
    · intro _ _ _ _ _ _ _ _ _ _ h; cases h
    · intro _ _ _ _ _ _ _ _ _ _ _ h; cases h
  | n + 1 => step_sound O (run_sound O n)
end
end Mini
namespace Mini
open PySem PySem.W PySem.W.X PySem.Calls PyProof.Rows Builtin

/-! the base, from the head's fragment -/
def plainF : Frag → Frag
  | [] => []
  | p :: r => match tabOf p.2 with
    | some _ => plainF r
    | none => p :: plainF r
def tabsF : Frag → List (Addr × Array Value)
  | [] => []
  | p :: r => match tabOf p.2 with
    | some ps => (p.1, ps) :: tabsF r
    | none => tabsF r
def rising : Nat → Frag → Bool
  | _, [] => true
  | n, p :: r => decide (n ≤ p.1) && rising (p.1 + 1) r
theorem rising_lookup : ∀ {K : Frag} {n a : Nat} {o : Obj}, rising n K = true → K.lookup a = some o → n ≤ a
  | [], _, _, _, _, e => by cases e
  | p :: r, n, a, o, h, e => by
    unfold rising at h
    obtain ⟨h1, h2⟩ := Bool.and_eq_true_iff.mp h
    have h1 := of_decide_eq_true h1
    obtain ⟨b, ob⟩ := p
    rw [List.lookup_cons] at e
    cases q : a == b with
    | true => rw [eq_of_beq q]; exact h1
    | false => rw [q] at e; have := rising_lookup h2 e; dsimp only at h1 this; omega
theorem plainF_lookup : ∀ {K : Frag} {n a : Nat} {o : Obj}, rising n K = true → (plainF K).lookup a = some o → K.lookup a = some o ∧ tabOf o = none
  | [], _, _, _, _, e => by cases e
  | p :: r, n, a, o, h, e => by
    unfold rising at h
    obtain ⟨h1, h2⟩ := Bool.and_eq_true_iff.mp h
    obtain ⟨b, ob⟩ := p
    unfold plainF at e
    rw [List.lookup_cons]
    split at e
    · rename_i ps hps
      obtain ⟨e1, e2⟩ := plainF_lookup h2 e
      have := rising_lookup h2 e1
      dsimp only at this
      have q : (a == b) = false := by
        rw [beq_eq_false_iff_ne]; rintro rfl; omega
      rw [q]; exact ⟨e1, e2⟩
    · rename_i hps
      rw [List.lookup_cons] at e
      cases q : a == b with
      | true => rw [q] at e; cases e; exact ⟨rfl, hps⟩
      | false => rw [q] at e; exact plainF_lookup h2 e
theorem tabsF_lookup : ∀ {K : Frag} {n a : Nat} {ps : Array Value}, rising n K = true → (tabsF K).lookup a = some ps → ∃ o, K.lookup a = some o ∧ tabOf o = some ps
  | [], _, _, _, _, e => by cases e
  | p :: r, n, a, ps, h, e => by
    unfold rising at h
    obtain ⟨h1, h2⟩ := Bool.and_eq_true_iff.mp h
    obtain ⟨b, ob⟩ := p
    unfold tabsF at e
    rw [List.lookup_cons]
    split at e
    · rename_i qs hqs
      rw [List.lookup_cons] at e
      cases q : a == b with
      | true => rw [q] at e; cases e; exact ⟨ob, rfl, hqs⟩
      | false => rw [q] at e; exact tabsF_lookup h2 e
    · obtain ⟨o, e1, e2⟩ := tabsF_lookup h2 e
      have := rising_lookup h2 e1
      dsimp only at this
      have q : (a == b) = false := by
        rw [beq_eq_false_iff_ne]; rintro rfl; omega
      rw [q]; exact ⟨o, e1, e2⟩
theorem tabOf_eq {o : Obj} {ps : Array Value} (h : tabOf o = some ps) : o = tableObj ps := by
  unfold tabOf at h
  split at h
  · rename_i vs sl
    split at h
    · rename_i hs
      cases h
      have : sl = #[] := Array.toList_eq_nil_iff.mp hs
      rw [this]; rfl
    · cases h
  · cases h

def triplesB : List Value → Bool
  | [] => true
  | .int _ _ :: .int _ _ :: _ :: r => triplesB r
  | _ => false
theorem triples_of : ∀ {l : List Value}, triplesB l = true → TriplesOk l
  | [], _ => trivial
  | .int _ _ :: .int _ _ :: _ :: r, h => triples_of (l := r) h
  | [.int _ _], h => by cases h
  | [.int _ _, .int _ _], h => by cases h

/-- what is asked of the head's fragment -/
def codeOkF (K : Frag) (o : Obj) : Bool := match o.data with
  | .func fd => (match fd.code with
    | .ref c => (match (plainF K).lookup c with
      | some o' => (match codeTab o' with
        | some P => ((tabsF K).lookup P).isSome
        | none => false)
      | none => false)
    | _ => true)
  | _ => true
def fragOk (K : Frag) : Bool :=
  rising 0 K && (plainF K).all (fun p => codeOkF K p.2) && (tabsF K).all (fun t => triplesB t.2.toList && (plainF K).any fun p => codeTab p.2 == some t.1) && (K.lookup sysModules).isSome

theorem mem_lookup {K : Frag} {a : Addr} {o : Obj} (e : K.lookup a = some o) : (a, o) ∈ K := by
  induction K with
  | nil => cases e
  | cons p r ih =>
    obtain ⟨b, ob⟩ := p
    rw [List.lookup_cons] at e
    cases q : a == b with
    | true => rw [q] at e; cases e; rw [eq_of_beq q]; exact List.mem_cons_self ..
    | false => rw [q] at e; exact List.mem_cons_of_mem _ (ih e)
theorem lookup_app {K : Frag} {L a : Addr} {so o : Obj} (e : (K ++ [(L, so)]).lookup a = some o) : K.lookup a = some o ∨ (a = L ∧ o = so ∧ K.lookup a = none) := by
  induction K with
  | nil =>
    rw [List.nil_append, List.lookup_cons] at e
    cases q : a == L with
    | true => rw [q] at e; cases e; exact .inr ⟨eq_of_beq q, rfl, rfl⟩
    | false => rw [q] at e; cases e
  | cons p r ih =>
    obtain ⟨b, ob⟩ := p
    rw [List.cons_append, List.lookup_cons] at e
    rw [List.lookup_cons]
    cases q : a == b with
    | true => rw [q] at e; exact .inl e
    | false => rw [q] at e; exact ih e
theorem lookup_left {K : Frag} {L a : Addr} {so o : Obj} (e : K.lookup a = some o) : (K ++ [(L, so)]).lookup a = some o := by
  induction K with
  | nil => cases e
  | cons p r ih =>
    obtain ⟨b, ob⟩ := p
    rw [List.cons_append, List.lookup_cons]
    rw [List.lookup_cons] at e
    cases q : a == b with
    | true => rw [q] at e; exact e
    | false => rw [q] at e; exact ih e

theorem base_ok {prog : Program} {w : World} {K : Frag} {h : Heap} {os : OsState} {L : Addr} {so : Obj} {mg mb : Str → Option Value} {bm : Addr} {ob : Obj} (ok : fragOk K = true) (hK : K.In h) (hL : h.get? L = some so) (hs : tabOf so = none) (hf : ∀ fd, so.data ≠ .func fd)
    (hl : h.NoLimit) (hg : h.Ns mainGlobals mg) (hb : h.Ns builtinsNs mb) (hbb : ∀ x : Str, x ≠ "__name__" → mb x = bootBuiltins x) (M : BMod h mainGlobals mg bm ob) : (Base.mk prog w (plainF K ++ [(L, so)]) h os (tabsF K)).Ok := by
  simp only [fragOk, Bool.and_eq_true] at ok
  obtain ⟨⟨⟨hr, hc⟩, ht⟩, hsys⟩ := ok
  refine ⟨fun a o e => ?_, fun a o e => ?_, hl, ?_, ⟨mg, bm, ob, M⟩, fun a o fd cc e hd hcc => ?_, ⟨mg, mb, hg, hb, hbb⟩⟩
  · rcases lookup_app e with q | ⟨rfl, rfl, _⟩
    · exact hK _ _ (plainF_lookup hr q).1
    · exact hL
  · rcases lookup_app e with q | ⟨rfl, rfl, _⟩
    · exact (plainF_lookup hr q).2
    · exact hs
  · obtain ⟨o, e⟩ := Option.isSome_iff_exists.mp hsys
    exact ⟨o, hK _ _ e⟩
  · rcases lookup_app e with q | ⟨rfl, rfl, _⟩
    · have := List.all_eq_true.mp hc _ (mem_lookup q)
      simp only [codeOkF, hd, hcc] at this
      split at this
      · rename_i o' ho'
        split at this
        · rename_i P hP
          obtain ⟨ps, hps⟩ := Option.isSome_iff_exists.mp this
          exact ⟨o', P, ps, lookup_left ho', hP, hps⟩
        · cases this
      · cases this
    · exact absurd hd (hf fd)
end Mini
namespace Mini
open PySem PySem.W PySem.W.X PySem.Calls PyProof.Rows Builtin

theorem lookup_mem : ∀ {K : Frag} {n : Nat} {p : Addr × Obj}, rising n K = true → p ∈ K → K.lookup p.1 = some p.2
  | [], _, _, _, e => by cases e
  | x :: r, n, p, h, e => by
    unfold rising at h
    obtain ⟨h1, h2⟩ := Bool.and_eq_true_iff.mp h
    rcases List.mem_cons.mp e with rfl | e
    · rw [List.lookup_cons, beq_self_eq_true]
    · have := lookup_mem h2 e
      have hl := rising_lookup h2 this
      obtain ⟨b, ob⟩ := x
      rw [List.lookup_cons]
      have q : (p.1 == b) = false := by
        rw [beq_eq_false_iff_ne]; intro q; rw [q] at hl; exact Nat.not_succ_le_self _ hl
      rw [q]; exact this
theorem plainF_sub : ∀ {K : Frag} {p : Addr × Obj}, p ∈ plainF K → p ∈ K
  | [], _, e => e
  | x :: r, p, e => by
    unfold plainF at e
    split at e
    · exact List.mem_cons_of_mem _ (plainF_sub e)
    · rcases List.mem_cons.mp e with rfl | e
      · exact List.mem_cons_self ..
      · exact List.mem_cons_of_mem _ (plainF_sub e)
theorem mem_tabs {T : List (Addr × Array Value)} {a : Addr} {ps : Array Value} (e : T.lookup a = some ps) : (a, ps) ∈ T := by
  induction T with
  | nil => cases e
  | cons p r ih =>
    obtain ⟨b, ob⟩ := p
    rw [List.lookup_cons] at e
    cases q : a == b with
    | true => rw [q] at e; cases e; rw [eq_of_beq q]; exact List.mem_cons_self ..
    | false => rw [q] at e; exact List.mem_cons_of_mem _ (ih e)

/-- what stands at the start -/
def startW (K : Frag) (h : Heap) : OM := fun a => match (tabsF K).lookup a with
  | some ps => some (.tab ps)
  | none => (h.get? a).map .fro
theorem startW_tab {K : Frag} {h : Heap} {a : Addr} {ps : Array Value} (e : startW K h a = some (.tab ps)) : (tabsF K).lookup a = some ps := by
  unfold startW at e
  split at e
  · rename_i qs hq; cases e; exact hq
  · cases hh : h.get? a with
    | none => rw [hh] at e; cases e
    | some o => rw [hh] at e; cases e
theorem startW_not {K : Frag} {h : Heap} {a : Addr} {x : Own} (e : startW K h a = some x) (hx : ∀ ps, x ≠ .tab ps) : ∃ o, x = .fro o ∧ h.get? a = some o := by
  unfold startW at e
  split at e
  · cases e; exact absurd rfl (hx _)
  · cases hh : h.get? a with
    | none => rw [hh] at e; cases e
    | some o => rw [hh] at e; cases e; exact ⟨o, rfl, rfl⟩

theorem table_of {K : Frag} {h : Heap} (ok : fragOk K = true) (hK : K.In h) {a : Addr} {ps : Array Value} (e : (tabsF K).lookup a = some ps) : h.get? a = some (tableObj ps) ∧ TriplesOk ps.toList ∧ ∃ c, h.TableAt c a ps := by
  simp only [fragOk, Bool.and_eq_true] at ok
  obtain ⟨⟨⟨hr, hc⟩, ht⟩, hsys⟩ := ok
  obtain ⟨o, e1, e2⟩ := tabsF_lookup hr e
  have g := hK _ _ e1
  rw [tabOf_eq e2] at g
  have := List.all_eq_true.mp ht _ (mem_tabs e)
  obtain ⟨t1, t2⟩ := Bool.and_eq_true_iff.mp this
  obtain ⟨p, hp, hcode⟩ := List.any_eq_true.mp t2
  have hcode : codeTab p.2 = some a := beq_iff_eq.mp hcode
  have gc := hK _ _ (lookup_mem hr (plainF_sub hp))
  have ne : p.1 ≠ a := fun q => by
    rw [q, g] at gc
    rw [← Option.some.inj gc] at hcode; cases hcode
  exact ⟨g, triples_of t1, p.1, (isCode_of hcode gc g (triples_of t1) ne).2⟩

theorem sim_start {prog : Program} {w : World} {K K' : Frag} {s : Shared} (ok : fragOk K = true) (hK : K.In s.heap) (g : AllBare s.gens) : Sim (Base.mk prog w K' s.heap s.os (tabsF K)) (startW K s.heap) [] s := by
  refine ⟨fun a o e => ?_, fun a o e => ?_, fun a o e => ?_, fun a i e => ?_, fun a i e => ?_, fun a b i e => ?_, fun a i e => ?_, fun a ps e => ?_, fun a ps e => ?_, rfl, g⟩
  · cases q : (tabsF K).lookup a with
    | some ps =>
      obtain ⟨h1, h2, c, h3⟩ := table_of ok hK q
      refine .inr ⟨ps, c, ?_, by unfold startW; rw [q], h3⟩
      have e : s.heap.get? a = some o := e
      rw [h1] at e; exact (Option.some.inj e).symm
    | none =>
      have e : s.heap.get? a = some o := e
      exact .inl (by unfold startW; rw [q, e]; rfl)
  · obtain ⟨o', h1, h2⟩ := startW_not e (by intro ps q; cases q)
    cases h1; exact h2
  · obtain ⟨o', h1, _⟩ := startW_not e (by intro ps q; cases q)
    cases h1
  · obtain ⟨o', h1, _⟩ := startW_not e (by intro ps q; cases q)
    cases h1
  · obtain ⟨o', h1, _⟩ := startW_not e (by intro ps q; cases q)
    cases h1
  · obtain ⟨o', h1, _⟩ := startW_not e (by intro ps q; cases q)
    cases h1
  · obtain ⟨o', h1, _⟩ := startW_not e (by intro ps q; cases q)
    cases h1
  · obtain ⟨h1, h2, h3⟩ := table_of ok hK (startW_tab e)
    exact ⟨h3, #[], by rw [Array.append_empty]; exact h1, by rw [Array.append_empty]; exact h2⟩
  · obtain ⟨h1, h2, h3⟩ := table_of ok hK e
    exact ⟨⟨_, h1⟩, by unfold startW; rw [e]⟩
end Mini
namespace Mini
open PySem PySem.W PySem.W.X PySem.Calls PyProof.Rows Builtin

theorem old_of {B : Base} {K : Frag} {W' : OM} {H' : Hp} {s s' : Shared} (ok : fragOk K = true) (hK : K.In s.heap) (l : Le (startW K s.heap) W') (S' : Sim B W' H' s') : OldK s.heap s'.heap := by
  have key : ∀ b o, s.heap.get? b = some o → asItWas s.heap s'.heap b o ∧ ∃ o', s'.heap.get? b = some o' := fun b o e => by
    cases q : (tabsF K).lookup b with
    | none =>
      have hw : startW K s.heap b = some (.fro o) := by unfold startW; rw [q, e]; rfl
      have := S'.fro _ _ (l _ _ hw)
      exact ⟨.inl this, o, this⟩
    | some ps =>
      obtain ⟨h1, h2, c, h3⟩ := table_of ok hK q
      have hw : startW K s.heap b = some (.tab ps) := by unfold startW; rw [q]
      obtain ⟨_, more, g, _⟩ := S'.tab _ _ (l _ _ hw)
      rw [h1] at e
      have e := Option.some.inj e
      subst e
      exact ⟨.inr (.inl ⟨h3.isCodeTable, rfl, ps, more, rfl, g⟩), _, g⟩
  exact ⟨fun b o e => (key b o e).1, fun b o e => (key b o e).2⟩

theorem join {prog : Program} {w : World} {K : Frag} {s : Shared} {L fa : Addr} {so : Obj} {mg mb : Str → Option Value} {bm : Addr} {ob : Obj} (ok : fragOk K = true) (hK : K.In s.heap) (hL : s.heap.get? L = some so) (hs : tabOf so = none) (hf : ∀ fd, so.data ≠ .func fd)
    (hl : s.heap.NoLimit) (hg : s.heap.Ns mainGlobals mg) (hb : s.heap.Ns builtinsNs mb) (hbb : ∀ x : Str, x ≠ "__name__" → mb x = bootBuiltins x) (M : BMod s.heap mainGlobals mg bm ob) (hgen : AllBare s.gens)
    {fo : Obj} (hfa : (plainF K ++ [(L, so)]).lookup fa = some fo) (hLk : (plainF K ++ [(L, so)]).lookup L = some so) {H' : Hp} (h : (run (plainF K ++ [(L, so)]) 150).call (.stat fa) [.stat L] [] [] = some (.bool true, H'))
    {Q E : Value → Shared → Prop} (q : ∀ s', OldK s.heap s'.heap → s'.os = s.os → AllBare s'.gens → Q (.bool true) s') : wpAny (model prog w) callerA (PySem.call (.ref fa) [.ref L]) Q E s := by
  have O := base_ok (prog := prog) (w := w) (os := s.os) ok hK hL hs hf hl hg hb hbb M
  have S := sim_start (prog := prog) (w := w) (K' := plainF K ++ [(L, so)]) (s := s) ok hK hgen
  have hR : Rm 150 callerA := ⟨by decide, by decide, rfl⟩
  refine ((run_sound O 150).call (kcs := []) h hR (VR.stat' O S hfa) (.cons (VR.stat' O S hLk) .nil) trivial).sm E Q s S fun c s' W' l S' rc => ?_
  cases rc
  exact q s' (old_of ok hK l S') S'.os S'.gens
end Mini
namespace Mini
open PySem PySem.W PySem.W.X PySem.Calls PyProof.Rows Builtin

/-- the fragment of the head with the script's list behind it -/
def scriptObj (vs : List Value) : Obj := { cls := .type "list", data := .seq vs.toArray }
def KF (K : Frag) (L : Addr) (vs : List Value) : Frag := plainF K ++ [(L, scriptObj vs)]
/-- what is to be shown of the interpreter -/
def LawAt (K : Frag) (fa L : Addr) : Prop := ∀ (ns : List Int) (vs : List Value), ns.length ≤ 63 → IntsAre vs ns →
  ∃ H', (run (KF K L vs) 150).call (.stat fa) [.stat L] [] [] = some (.bool true, H')
theorem lookup_snoc : ∀ {K : Frag} {L : Addr} {so : Obj}, K.lookup L = none → (K ++ [(L, so)]).lookup L = some so
  | [], L, so, _ => by rw [List.nil_append, List.lookup_cons, beq_self_eq_true]
  | (b, ob) :: r, L, so, h => by
    rw [List.cons_append, List.lookup_cons]
    rw [List.lookup_cons] at h
    cases q : L == b with
    | true => rw [q] at h; cases h
    | false => rw [q] at h; exact lookup_snoc h

theorem join_law {prog : Program} {w : World} {c : ClaimW} {cl : Str → Option Addr} {mean : ExcName → Option Value} {args : List WData} {K : Frag} {s : Shared} {L fa : Addr} {ns : List Int} {vs : List Value} {mg mb : Str → Option Value} {bm : Addr} {ob : Obj}
    (law : LawAt K fa L) (hn : ns.length ≤ 63) (hi : IntsAre vs ns) (ok : (fragOk K && ((plainF K).lookup fa).isSome && ((plainF K).lookup L).isNone) = true) (hK : K.In s.heap) (hL : s.heap.get? L = some (scriptObj vs))
    (hl : s.heap.NoLimit) (hg : s.heap.Ns mainGlobals mg) (hb : s.heap.Ns builtinsNs mb) (hbb : ∀ x : Str, x ≠ "__name__" → mb x = bootBuiltins x) (M : BMod s.heap mainGlobals mg bm ob) (hgen : s.gens = #[])
    (hr : ∀ cls, c.raises args cls = false) (hp : c.post args (.bool true) args = true) :
    wpAny (model prog w) callerA (PySem.call (.ref fa) [.ref L]) (fun v s' => GoodWG c cl mean args s (.ok (.ret v)) s') (fun e s' => GoodWG c cl mean args s (.error e) s') s := by
  rw [Bool.and_eq_true, Bool.and_eq_true] at ok
  obtain ⟨⟨ok, hfa⟩, hno⟩ := ok
  obtain ⟨fo, hfa⟩ := Option.isSome_iff_exists.mp hfa
  rw [Option.isNone_iff_eq_none] at hno
  obtain ⟨H', h⟩ := law ns vs hn hi
  refine join ok hK hL rfl (by intro fd q; cases q) hl hg hb hbb M (by rw [hgen]; exact AllBare.empty) (lookup_left hfa) (lookup_snoc hno) h fun s' h1 h2 h3 => ?_
  exact ⟨.inl ⟨_, _, [], rfl, hr, ReadsW.bool true, hp, fun _ => ⟨List.nodup_nil, fun _ hm => (nomatch hm)⟩⟩, h1, h2, h3⟩
end Mini
namespace Mini
open PySem PySem.W PySem.W.X PySem.Calls PyProof.Rows Builtin

/-! what a run of the small interpreter makes, as an assertion -/
def OW (o : Option (V × Hp)) (Q : V → Hp → Prop) : Prop := ∃ v H', o = some (v, H') ∧ Q v H'
def TW (o : Option (Bool × Hp)) (Q : Bool → Hp → Prop) : Prop := ∃ v H', o = some (v, H') ∧ Q v H'
def LW {α : Type} (o : Option (α × Hp)) (Q : α → Hp → Prop) : Prop := ∃ v H', o = some (v, H') ∧ Q v H'
def XW (o : Option (Fl × Loc × Hp)) (Q : Fl → Loc → Hp → Prop) : Prop := ∃ f ρ' H', o = some (f, ρ', H') ∧ Q f ρ' H'
def SW (o : Option Hp) (Q : Hp → Prop) : Prop := ∃ H', o = some H' ∧ Q H'
def AW (o : Option (Loc × Hp)) (Q : Loc → Hp → Prop) : Prop := ∃ ρ' H', o = some (ρ', H') ∧ Q ρ' H'

theorem OW.mono {o : Option (V × Hp)} {Q Q' : V → Hp → Prop} (h : OW o Q) (m : ∀ v H, Q v H → Q' v H) : OW o Q' := let ⟨v, H', e, q⟩ := h; ⟨v, H', e, m _ _ q⟩
theorem XW.mono {o : Option (Fl × Loc × Hp)} {Q Q' : Fl → Loc → Hp → Prop} (h : XW o Q) (m : ∀ v ρ H, Q v ρ H → Q' v ρ H) : XW o Q' := let ⟨v, ρ', H', e, q⟩ := h; ⟨v, ρ', H', e, m _ _ _ q⟩
theorem ow_some {v : V} {H : Hp} {Q : V → Hp → Prop} (q : Q v H) : OW (some (v, H)) Q := ⟨v, H, rfl, q⟩

section
variable {K : Frag} {n : Nat} {sc : Scope} {ρ φ : Loc} {H : Hp} {v u : V} {Q : V → Hp → Prop} {T : Bool → Hp → Prop} {X : Fl → Loc → Hp → Prop} {e a b t l : Expr} {p : Pos} {x y : Str}

/-! names -/
def locOk (sc : Scope) (x : Str) : Bool := !(x == ("__debug__" : Str)) && stores sc x
def globOk (sc : Scope) (x : Str) : Bool := !(x == ("__debug__" : Str)) && (match sc.names.lookup x with | some .globalImplicit => true | _ => false)
def freeOk (sc : Scope) (x : Str) : Bool := !(x == ("__debug__" : Str)) && !(x == ("__classdict__" : Str)) && (match sc.names.lookup x with | some .free => true | _ => false)
theorem name_local (h : stores sc x = true) (hv : ρ.lookup x = some v) : nameV K sc ρ φ x = some v := by
  unfold stores at h
  unfold nameV
  split at h
  · rename_i e; rw [e]; exact hv
  · rename_i e; rw [e]; exact hv
  · cases h
theorem name_free (h : freeOk sc x = true) (hv : φ.lookup x = some v) : nameV K sc ρ φ x = some v := by
  simp only [freeOk, Bool.and_eq_true, Bool.not_eq_true'] at h
  obtain ⟨⟨h1, h2⟩, h3⟩ := h
  unfold nameV
  split at h3
  · rename_i e; rw [e]; dsimp only; rw [h2]; exact hv
  · cases h3
theorem name_glob (h : globOk sc x = true) (hv : glob K x = some v) : nameV K sc ρ φ x = some v := by
  simp only [globOk, Bool.and_eq_true, Bool.not_eq_true'] at h
  obtain ⟨h1, h3⟩ := h
  unfold nameV
  split at h3
  · rename_i e; rw [e]; exact hv
  · cases h3
theorem ev_name (hd : (x == ("__debug__" : Str)) = false) (hv : nameV K sc ρ φ x = some v) (q : Q v H) : OW ((run K (n + 1)).ev sc ρ φ (.Name x p) H) Q := by
  refine ⟨v, H, ?_, q⟩
  show (if x == ("__debug__" : Str) then none else match nameV K sc ρ φ x with | some v => some (v, H) | none => none) = _
  rw [hd, hv]; rfl
theorem ev_local (h : locOk sc x = true) (hv : ρ.lookup x = some v) (q : Q v H) : OW ((run K (n + 1)).ev sc ρ φ (.Name x p) H) Q := by
  simp only [locOk, Bool.and_eq_true, Bool.not_eq_true'] at h
  exact ev_name h.1 (name_local h.2 hv) q
theorem ev_glob (h : globOk sc x = true) (hv : glob K x = some v) (q : Q v H) : OW ((run K (n + 1)).ev sc ρ φ (.Name x p) H) Q := by
  have h' := h
  simp only [globOk, Bool.and_eq_true, Bool.not_eq_true'] at h'
  exact ev_name h'.1 (name_glob h hv) q
theorem ev_free (h : freeOk sc x = true) (hv : φ.lookup x = some v) (q : Q v H) : OW ((run K (n + 1)).ev sc ρ φ (.Name x p) H) Q := by
  have h' := h
  simp only [freeOk, Bool.and_eq_true, Bool.not_eq_true'] at h'
  exact ev_name h'.1.1 (name_free h hv) q

theorem lk_cons_self {r : Loc} : ((x, v) :: r : Loc).lookup x = some v := by
  rw [List.lookup_cons]; have : (x == x) = true := beq_self_eq_true x; rw [this]
theorem lk_cons_ne {r : Loc} (h : (y == x) = false) (hv : r.lookup x = some v) : ((y, u) :: r : Loc).lookup x = some v := by
  rw [List.lookup_cons]
  have : (x == y) = false := by
    rw [beq_eq_false_iff_ne] at h ⊢; exact fun q => h q.symm
  rw [this]; exact hv
theorem lk_upd_self : ∀ {ρ : Loc}, (upd x v ρ).lookup x = some v
  | [] => lk_cons_self
  | (y, u) :: r => by
    unfold upd
    split
    · rename_i e; have := eq_of_beq e; subst this; exact lk_cons_self
    · rename_i e
      refine lk_cons_ne ?_ lk_upd_self
      rw [beq_eq_false_iff_ne] at e ⊢; exact fun q => e q.symm
theorem lk_upd_ne' (h : (y == x) = false) : ∀ {ρ : Loc}, (upd y u ρ).lookup x = ρ.lookup x
  | [] => by
    show List.lookup x [(y, u)] = _
    rw [List.lookup_cons]
    have : (x == y) = false := by rw [beq_eq_false_iff_ne] at h ⊢; exact fun q => h q.symm
    rw [this]
  | (z, w) :: r => by
    unfold upd
    split
    · rename_i e; have := eq_of_beq e; subst this
      rw [List.lookup_cons, List.lookup_cons]
      have : (x == y) = false := by rw [beq_eq_false_iff_ne] at h ⊢; exact fun q => h q.symm
      rw [this]
    · rw [List.lookup_cons, List.lookup_cons, lk_upd_ne' h]
theorem lk_upd_ne (h : (y == x) = false) (hv : ρ.lookup x = some v) : (upd y u ρ).lookup x = some v := by rw [lk_upd_ne' h]; exact hv

/-! expressions -/
theorem ev_const {c : Const} {k : Nat} (hc : constV c = some v) (q : Q v H) : OW ((run K (n + 1)).ev sc ρ φ (.Constant c k p) H) Q := by
  refine ⟨v, H, ?_, q⟩
  show (match constV c with | some v => some (v, H) | none => none) = _
  rw [hc]
theorem ev_binop {op : Operator} (h : OW ((run K n).ev sc ρ φ a H) fun x H1 => OW ((run K n).ev sc ρ φ b H1) fun y H2 => OW (binop K (run K n) op x y H2) Q) : OW ((run K (n + 1)).ev sc ρ φ (.BinOp a op b p) H) Q := by
  obtain ⟨x, H1, e1, y, H2, e2, z, H3, e3, q⟩ := h
  refine ⟨z, H3, ?_, q⟩
  show (match (run K n).ev sc ρ φ a H with | some (x, H1) => (match (run K n).ev sc ρ φ b H1 with | some (y, H2) => binop K (run K n) op x y H2 | none => none) | none => none) = _
  rw [e1]; dsimp only; rw [e2]; exact e3
theorem bin_int {op : Operator} {i j k : Int} (hk : intOp op i j = some k) (q : Q (.int k) H) : OW (binop K (run K n) op (.int i) (.int j) H) Q := by
  refine ⟨_, H, ?_, q⟩
  show (match intOp op i j with | some z => some (V.int z, H) | none => none) = _
  rw [hk]
theorem bin_cat {i j : Str} (hs : i.length + j.length ≤ maxL) (q : Q (.str (i ++ j)) H) : OW (binop K (run K n) .Add (.str i) (.str j) H) Q := by
  refine ⟨_, H, ?_, q⟩
  show (if i.length + j.length ≤ maxL then some (V.str (i ++ j), H) else none) = _
  rw [if_pos hs]
theorem bin_catb {i j : Array UInt8} (hs : i.size + j.size ≤ maxL) (q : Q (.bytes (i ++ j)) H) : OW (binop K (run K n) .Add (.bytes i) (.bytes j) H) Q := by
  refine ⟨_, H, ?_, q⟩
  show (if i.size + j.size ≤ maxL then some (V.bytes (i ++ j), H) else none) = _
  rw [if_pos hs]
theorem ev_not (h : OW ((run K n).ev sc ρ φ a H) fun v H' => ∃ t, truthy K H' v = some t ∧ Q (.bool (!t)) H') : OW ((run K (n + 1)).ev sc ρ φ (.UnaryOp .Not a p) H) Q := by
  obtain ⟨v, H', e, t, ht, q⟩ := h
  refine ⟨_, H', ?_, q⟩
  show (match (run K n).ev sc ρ φ a H with | some (v, H') => (match truthy K H' v with | some b => some (V.bool (!b), H') | none => none) | none => none) = _
  rw [e]; dsimp only; rw [ht]
theorem ev_usub (h : OW ((run K n).ev sc ρ φ a H) fun v H' => ∃ i, v = .int i ∧ Q (.int (-i)) H') : OW ((run K (n + 1)).ev sc ρ φ (.UnaryOp .USub a p) H) Q := by
  obtain ⟨v, H', e, i, rfl, q⟩ := h
  refine ⟨_, H', ?_, q⟩
  show (match (run K n).ev sc ρ φ a H with | some (v, H') => (match v with | .int i => some (V.int (-i), H') | _ => none) | none => none) = _
  rw [e]
theorem ev_ifexp (h : TW ((run K n).tr sc ρ φ t H) fun c H' => (c = true → OW ((run K n).ev sc ρ φ a H') Q) ∧ (c = false → OW ((run K n).ev sc ρ φ b H') Q)) : OW ((run K (n + 1)).ev sc ρ φ (.IfExp t a b p) H) Q := by
  obtain ⟨c, H', e, h1, h2⟩ := h
  cases c with
  | true =>
    obtain ⟨v, H'', e', q⟩ := h1 rfl
    refine ⟨v, H'', ?_, q⟩
    show (match (run K n).tr sc ρ φ t H with | some (true, H') => (run K n).ev sc ρ φ a H' | some (false, H') => (run K n).ev sc ρ φ b H' | none => none) = _
    rw [e]; exact e'
  | false =>
    obtain ⟨v, H'', e', q⟩ := h2 rfl
    refine ⟨v, H'', ?_, q⟩
    show (match (run K n).tr sc ρ φ t H with | some (true, H') => (run K n).ev sc ρ φ a H' | some (false, H') => (run K n).ev sc ρ φ b H' | none => none) = _
    rw [e]; exact e'

/-! expressions in a row -/
theorem evs_nil {f : Expr → Hp → Option (V × Hp)} {Q : List V → Hp → Prop} (q : Q [] H) : LW (evs f [] H) Q := ⟨_, _, rfl, q⟩
theorem evs_cons {f : Expr → Hp → Option (V × Hp)} {r : List Expr} {Q : List V → Hp → Prop} (h : OW (f e H) fun v H' => LW (evs f r H') fun vs H'' => Q (v :: vs) H'') : LW (evs f (e :: r) H) Q := by
  obtain ⟨v, H', e1, vs, H'', e2, q⟩ := h
  refine ⟨_, _, ?_, q⟩
  unfold evs; rw [e1]; dsimp only; rw [e2]
theorem evk_nil {f : Expr → Hp → Option (V × Hp)} {Q : List (Str × V) → Hp → Prop} (q : Q [] H) : LW (evk f [] H) Q := ⟨_, _, rfl, q⟩
theorem evk_cons {f : Expr → Hp → Option (V × Hp)} {r : List Keyword} {Q : List (Str × V) → Hp → Prop} (h : OW (f e H) fun v H' => LW (evk f r H') fun vs H'' => Q ((x, v) :: vs) H'') : LW (evk f (⟨some x, e, p⟩ :: r) H) Q := by
  obtain ⟨v, H', e1, vs, H'', e2, q⟩ := h
  refine ⟨_, _, ?_, q⟩
  unfold evk; rw [e1]; dsimp only; rw [e2]
/-- a new list: its number is known as the heap's length -/
theorem newL_w {xs : List V} (hs : xs.length ≤ maxL) (q : ∀ i, i = H.length → Q (.ref i) (H ++ [.list xs])) : OW (newL xs H) Q := by
  refine ⟨_, _, ?_, q _ rfl⟩
  unfold newL; rw [if_pos hs]
theorem ev_list {es : List Expr} (hs : es.any isStar = false) (h : LW (evs ((run K n).ev sc ρ φ) es H) fun vs H' => OW (newL vs H') Q) : OW ((run K (n + 1)).ev sc ρ φ (.List es p) H) Q := by
  obtain ⟨vs, H', e1, z, H2, e2, q⟩ := h
  refine ⟨z, H2, ?_, q⟩
  show (if es.any isStar then none else match evs ((run K n).ev sc ρ φ) es H with | some (vs, H') => newL vs H' | none => none) = _
  rw [hs, e1]; exact e2
theorem ev_tuple {es : List Expr} {k : Nat} (hs : es.any isStar = false) (h : LW (evs ((run K n).ev sc ρ φ) es H) fun vs H' => vs.length ≤ maxL ∧ Q (.tup vs) H') : OW ((run K (n + 1)).ev sc ρ φ (.Tuple es k p) H) Q := by
  obtain ⟨vs, H', e1, hm, q⟩ := h
  refine ⟨_, _, ?_, q⟩
  show (if es.any isStar then none else match evs ((run K n).ev sc ρ φ) es H with | some (vs, H') => if vs.length ≤ maxL then some (V.tup vs, H') else none | none => none) = _
  rw [hs, e1]; dsimp only; rw [if_pos hm]; rfl
theorem ev_dict0 (q : ∀ i, i = H.length → Q (.ref i) (H ++ [.dict []])) : OW ((run K (n + 1)).ev sc ρ φ (.Dict [] [] p) H) Q := ⟨_, _, rfl, q _ rfl⟩

/-! comparisons -/
def CW (K : Frag) (f : Expr → Hp → Option (V × Hp)) (v : V) (ops : List CmpOp) (es : List Expr) (H : Hp) (T : Bool → Hp → Prop) : Prop := TW (chain K f v ops es H) T
theorem chain_one {f : Expr → Hp → Option (V × Hp)} {op : CmpOp} (h : OW (f e H) fun u H' => ∃ c, cmpV K H' op v u = some c ∧ T c H') : TW (chain K f v [op] [e] H) T := by
  obtain ⟨u, H', e1, c, e2, q⟩ := h
  refine ⟨c, H', ?_, q⟩
  unfold chain; rw [e1]; dsimp only; rw [e2]
theorem chain_two {f : Expr → Hp → Option (V × Hp)} {op op' : CmpOp} {e' : Expr} (h : OW (f e H) fun u H' => ∃ c, cmpV K H' op v u = some c ∧ (c = true → TW (chain K f u [op'] [e'] H') T) ∧ (c = false → T false H')) : TW (chain K f v [op, op'] [e, e'] H) T := by
  obtain ⟨u, H', e1, c, e2, h1, h2⟩ := h
  cases c with
  | true =>
    obtain ⟨d, H'', e3, q⟩ := h1 rfl
    refine ⟨d, H'', ?_, q⟩
    unfold chain; rw [e1]; dsimp only; rw [e2]; exact e3
  | false =>
    refine ⟨false, H', ?_, h2 rfl⟩
    unfold chain; rw [e1]; dsimp only; rw [e2]
theorem compare_w {ops : List CmpOp} {rs : List Expr} (hs : rs.any isSetX = false) (h : OW ((run K n).ev sc ρ φ l H) fun v H' => TW (chain K ((run K n).ev sc ρ φ) v ops rs H') T) : TW (compareV K ((run K n).ev sc ρ φ) l ops rs H) T := by
  obtain ⟨v, H', e1, c, H2, e2, q⟩ := h
  refine ⟨c, H2, ?_, q⟩
  unfold compareV; rw [e1]; dsimp only; rw [hs]; exact e2
theorem ev_compare {ops : List CmpOp} {rs : List Expr} (h : TW (compareV K ((run K n).ev sc ρ φ) l ops rs H) fun c H' => Q (.bool c) H') : OW ((run K (n + 1)).ev sc ρ φ (.Compare l ops rs p) H) Q := by
  obtain ⟨c, H', e1, q⟩ := h
  refine ⟨_, H', ?_, q⟩
  show (match compareV K ((run K n).ev sc ρ φ) l ops rs H with | some (b, H') => some (V.bool b, H') | none => none) = _
  rw [e1]

/-! tests -/
theorem tr_not (h : TW ((run K n).tr sc ρ φ a H) fun c H' => T (!c) H') : TW ((run K (n + 1)).tr sc ρ φ (.UnaryOp .Not a p) H) T := by
  obtain ⟨c, H', e, q⟩ := h
  refine ⟨_, H', ?_, q⟩
  show (match (run K n).tr sc ρ φ a H with | some (b, H') => some (!b, H') | none => none) = _
  rw [e]
theorem tr_and {es : List Expr} (h : TW (allTr ((run K n).tr sc ρ φ) es H) T) : TW ((run K (n + 1)).tr sc ρ φ (.BoolOp .And es p) H) T := h
theorem tr_or {es : List Expr} (h : TW (anyTr ((run K n).tr sc ρ φ) es H) T) : TW ((run K (n + 1)).tr sc ρ φ (.BoolOp .Or es p) H) T := h
theorem tr_compare {ops : List CmpOp} {rs : List Expr} (h : TW (compareV K ((run K n).ev sc ρ φ) l ops rs H) T) : TW ((run K (n + 1)).tr sc ρ φ (.Compare l ops rs p) H) T := h
theorem all_nil {f : Expr → Hp → Option (Bool × Hp)} (q : T true H) : TW (allTr f [] H) T := ⟨_, _, rfl, q⟩
theorem any_nil {f : Expr → Hp → Option (Bool × Hp)} (q : T false H) : TW (anyTr f [] H) T := ⟨_, _, rfl, q⟩
theorem all_cons {f : Expr → Hp → Option (Bool × Hp)} {r : List Expr} (h : TW (f e H) fun c H' => (c = true → TW (allTr f r H') T) ∧ (c = false → T false H')) : TW (allTr f (e :: r) H) T := by
  obtain ⟨c, H', e1, h1, h2⟩ := h
  cases c with
  | true =>
    obtain ⟨d, H'', e2, q⟩ := h1 rfl
    refine ⟨d, H'', ?_, q⟩
    unfold allTr; rw [e1]; exact e2
  | false => refine ⟨false, H', ?_, h2 rfl⟩; unfold allTr; rw [e1]
theorem any_cons {f : Expr → Hp → Option (Bool × Hp)} {r : List Expr} (h : TW (f e H) fun c H' => (c = false → TW (anyTr f r H') T) ∧ (c = true → T true H')) : TW (anyTr f (e :: r) H) T := by
  obtain ⟨c, H', e1, h1, h2⟩ := h
  cases c with
  | false =>
    obtain ⟨d, H'', e2, q⟩ := h1 rfl
    refine ⟨d, H'', ?_, q⟩
    unfold anyTr; rw [e1]; exact e2
  | true => refine ⟨true, H', ?_, h2 rfl⟩; unfold anyTr; rw [e1]
/-- the test of a value: names, attributes, calls, items -/
def plainTest : Expr → Bool
  | .UnaryOp .Not .. | .BoolOp .. | .IfExp .. | .Compare .. => false
  | _ => true
theorem tr_val (hp : plainTest e = true) (h : OW ((run K n).ev sc ρ φ e H) fun v H' => ∃ c, truthy K H' v = some c ∧ T c H') : TW ((run K (n + 1)).tr sc ρ φ e H) T := by
  obtain ⟨v, H', e1, c, e2, q⟩ := h
  refine ⟨c, H', ?_, q⟩
  show stepTr K (run K n) sc ρ φ e H = _
  unfold stepTr
  split <;> first | (cases hp; done) | (rw [e1]; dsimp only; rw [e2])
theorem ev_and_nil {es : List Expr} {op : BoolOp} (h : OW (boolV K op ((run K n).ev sc ρ φ) es H) Q) : OW ((run K (n + 1)).ev sc ρ φ (.BoolOp op es p) H) Q := h
theorem bool_one {op : BoolOp} {f : Expr → Hp → Option (V × Hp)} (h : OW (f e H) Q) : OW (boolV K op f [e] H) Q := h
theorem bool_or {f : Expr → Hp → Option (V × Hp)} {e' : Expr} {r : List Expr} (h : OW (f e H) fun v H' => ∃ c, truthy K H' v = some c ∧ (c = true → Q v H') ∧ (c = false → OW (boolV K .Or f (e' :: r) H') Q)) : OW (boolV K .Or f (e :: e' :: r) H) Q := by
  obtain ⟨v, H', e1, c, e2, h1, h2⟩ := h
  cases c with
  | true => refine ⟨v, H', ?_, h1 rfl⟩; unfold boolV; rw [e1]; dsimp only; rw [e2]
  | false =>
    obtain ⟨w, H2, e3, q⟩ := h2 rfl
    refine ⟨w, H2, ?_, q⟩; unfold boolV; rw [e1]; dsimp only; rw [e2]; exact e3
theorem bool_and {f : Expr → Hp → Option (V × Hp)} {e' : Expr} {r : List Expr} (h : OW (f e H) fun v H' => ∃ c, truthy K H' v = some c ∧ (c = false → Q v H') ∧ (c = true → OW (boolV K .And f (e' :: r) H') Q)) : OW (boolV K .And f (e :: e' :: r) H) Q := by
  obtain ⟨v, H', e1, c, e2, h1, h2⟩ := h
  cases c with
  | false => refine ⟨v, H', ?_, h1 rfl⟩; unfold boolV; rw [e1]; dsimp only; rw [e2]
  | true =>
    obtain ⟨w, H2, e3, q⟩ := h2 rfl
    refine ⟨w, H2, ?_, q⟩; unfold boolV; rw [e1]; dsimp only; rw [e2]; exact e3

/-! attributes -/
theorem ev_attr {o : Expr} (hb : plainBase o = true) (h : OW ((run K n).ev sc ρ φ o H) fun ov H' => OW (getAttr K (run K n) ov x H') Q) : OW ((run K (n + 1)).ev sc ρ φ (.Attribute o x p) H) Q := by
  obtain ⟨v, H', e1, w, H2, e2, q⟩ := h
  refine ⟨w, H2, ?_, q⟩
  show (if plainBase o then match (run K n).ev sc ρ φ o H with | some (ov, H') => getAttr K (run K n) ov x H' | none => none else none) = _
  rw [if_pos hb, e1]; exact e2
def notBi : V → Bool
  | .bi _ => false
  | _ => true
theorem noBi_some (h : notBi v = true) : noBi (some (v, H)) = some (v, H) := by
  unfold noBi; cases v <;> first | rfl | cases h
theorem attr_field {i : Nat} {C : Addr} {fs : List (Str × V)} {r : Rec} (ho : H[i]? = some (.inst C fs)) (hk : attrKind K C x = some .field) (hf : getF x fs = some v) (hn : notBi v = true) (q : Q v H) : OW (getAttr K r (.ref i) x H) Q := by
  refine ⟨v, H, ?_, q⟩
  unfold getAttr; dsimp only; rw [ho]; dsimp only; rw [hk]; dsimp only; rw [hf]; exact noBi_some hn
theorem attr_const {i : Nat} {C : Addr} {fs : List (Str × V)} {r : Rec} {w : V} (ho : H[i]? = some (.inst C fs)) (hk : attrKind K C x = some (.const w)) (hf : getF x fs = none) (q : Q w H) : OW (getAttr K r (.ref i) x H) Q := by
  refine ⟨w, H, ?_, q⟩
  unfold getAttr; dsimp only; rw [ho]; dsimp only; rw [hk]; dsimp only; rw [hf]
theorem attr_over {i : Nat} {C : Addr} {fs : List (Str × V)} {r : Rec} {w : V} (ho : H[i]? = some (.inst C fs)) (hk : attrKind K C x = some (.const w)) (hf : getF x fs = some v) (hn : notBi v = true) (q : Q v H) : OW (getAttr K r (.ref i) x H) Q := by
  refine ⟨v, H, ?_, q⟩
  unfold getAttr; dsimp only; rw [ho]; dsimp only; rw [hk]; dsimp only; rw [hf]; exact noBi_some hn
theorem attr_prop {i : Nat} {C g : Addr} {fs : List (Str × V)} {r : Rec} (ho : H[i]? = some (.inst C fs)) (hk : attrKind K C x = some (.prop g)) (h : OW (r.call (.stat g) [.ref i] [] H) fun v H' => notBi v = true ∧ Q v H') : OW (getAttr K r (.ref i) x H) Q := by
  obtain ⟨v, H', e1, hn, q⟩ := h
  refine ⟨v, H', ?_, q⟩
  unfold getAttr; dsimp only; rw [ho]; dsimp only; rw [hk]; dsimp only; rw [e1]; exact noBi_some hn
theorem set_field {i : Nat} {C : Addr} {fs : List (Str × V)} {r : Rec} {Q : Hp → Prop} (ho : H[i]? = some (.inst C fs)) (hl : fs.length < 900) (hk : setKind K C x = some none) (q : Q (H.set i (.inst C (putF x v fs)))) : SW (setAttr K r (.ref i) x v H) Q := by
  refine ⟨_, ?_, q⟩
  unfold setAttr; dsimp only; rw [ho]; dsimp only; rw [if_pos hl, hk]
theorem set_prop {i : Nat} {C g : Addr} {fs : List (Str × V)} {r : Rec} {Q : Hp → Prop} (ho : H[i]? = some (.inst C fs)) (hl : fs.length < 900) (hk : setKind K C x = some (some g)) (h : OW (r.call (.stat g) [.ref i, v] [] H) fun _ H' => Q H') : SW (setAttr K r (.ref i) x v H) Q := by
  obtain ⟨w, H', e1, q⟩ := h
  refine ⟨_, ?_, q⟩
  unfold setAttr; dsimp only; rw [ho]; dsimp only; rw [if_pos hl, hk]; dsimp only; rw [e1]

/-! items -/
theorem ev_subscript {o i : Expr} (h : OW ((run K n).ev sc ρ φ o H) fun ov H1 => OW ((run K n).ev sc ρ φ i H1) fun iv H2 => OW (getItem K (run K n) ov iv H2) Q) : OW ((run K (n + 1)).ev sc ρ φ (.Subscript o i p) H) Q := by
  obtain ⟨v, H1, e1, w, H2, e2, z, H3, e3, q⟩ := h
  refine ⟨z, H3, ?_, q⟩
  show (match (run K n).ev sc ρ φ o H with | some (ov, H1) => (match (run K n).ev sc ρ φ i H1 with | some (iv, H2) => getItem K (run K n) ov iv H2 | none => none) | none => none) = _
  rw [e1]; dsimp only; rw [e2]; exact e3
theorem part_none {f : Expr → Hp → Option (V × Hp)} {Q : Option Int → Hp → Prop} (q : Q none H) : LW (partE f none H) Q := ⟨_, _, rfl, q⟩
theorem part_some {f : Expr → Hp → Option (V × Hp)} {Q : Option Int → Hp → Prop} (h : OW (f e H) fun v H' => ∃ i, v = .int i ∧ Q (some i) H') : LW (partE f (some e) H) Q := by
  obtain ⟨v, H', e1, i, rfl, q⟩ := h
  refine ⟨_, _, ?_, q⟩
  unfold partE; dsimp only; rw [e1]; rfl
theorem ev_slice {lo hi : Option Expr} (h : LW (partE ((run K n).ev sc ρ φ) lo H) fun i H1 => LW (partE ((run K n).ev sc ρ φ) hi H1) fun j H2 => Q (.slc i j) H2) : OW ((run K (n + 1)).ev sc ρ φ (.Slice lo hi none p) H) Q := by
  obtain ⟨v, H1, e1, w, H2, e2, q⟩ := h
  refine ⟨_, _, ?_, q⟩
  show stepEv K (run K n) sc ρ φ (.Slice lo hi none p) H = _
  cases lo <;> cases hi <;> (unfold stepEv; dsimp only; rw [e1]; dsimp only; rw [e2])

/-! calls -/
def mrun (K : Frag) (n : Nat) (m : MR) (ov : V) (vs : List V) (kv : List (Str × V)) (H : Hp) : Option (V × Hp) := match m with
  | .fn f => (run K n).call (.stat f) (ov :: vs) kv H
  | .bm bid b => if kv.isEmpty then mcall K bid (if b then ov :: vs else vs) H else none
theorem mrun_fn {f : Addr} {ov : V} {vs : List V} {kv : List (Str × V)} (h : OW ((run K n).call (.stat f) (ov :: vs) kv H) Q) : OW (mrun K n (.fn f) ov vs kv H) Q := h
theorem mrun_bm {id : String} {ov : V} {vs : List V} (h : OW (mcall K id (ov :: vs) H) Q) : OW (mrun K n (.bm id true) ov vs [] H) Q := h
theorem ev_meth {o : Expr} {apos pos : Pos} {args : List Expr} {kws : List Keyword} (hk : callOk o args kws apos pos = true) (h : OW ((run K n).ev sc ρ φ o H) fun ov H1 => ∃ m, methRes K H1 ov x = some m ∧ LW (evs ((run K n).ev sc ρ φ) args H1) fun vs H2 => LW (evk ((run K n).ev sc ρ φ) kws H2) fun kv H3 =>
    OW (mrun K n m ov vs kv H3) Q) : OW ((run K (n + 1)).ev sc ρ φ (.Call (.Attribute o x apos) args kws pos) H) Q := by
  obtain ⟨ov, H1, e1, m, e2, vs, H2, e3, kv, H3, e4, z, H4, e5, q⟩ := h
  refine ⟨z, H4, ?_, q⟩
  show (if callOk o args kws apos pos then (match (run K n).ev sc ρ φ o H with
    | some (ov, H1) => (match methRes K H1 ov x with
      | some m => (match evs ((run K n).ev sc ρ φ) args H1 with
        | some (vs, H2) => (match evk ((run K n).ev sc ρ φ) kws H2 with
          | some (kv, H3) => (match m with
            | .fn f => (run K n).call (.stat f) (ov :: vs) kv H3
            | .bm bid b => if kv.isEmpty then mcall K bid (if b then ov :: vs else vs) H3 else none)
          | none => none)
        | none => none)
      | none => none)
    | none => none) else none) = _
  rw [if_pos hk, e1]; dsimp only; rw [e2]; dsimp only; rw [e3]; dsimp only; rw [e4]; exact e5
theorem mr_fn {i : Nat} {C f : Addr} {fs : List (Str × V)} (ho : H[i]? = some (.inst C fs)) (hk : attrKind K C x = some (.meth f)) (hf : getF x fs = none) (hq : keepIn K (.ref f) = true) : methRes K H (.ref i) x = some (.fn f) := by
  unfold methRes; dsimp only; rw [ho]; dsimp only; rw [hk]; dsimp only; rw [hf]; dsimp only; rw [if_pos hq]
theorem mr_append {i : Nat} {xs : List V} (ho : H[i]? = some (.list xs)) : methRes K H (.ref i) "append" = some (.bm "list.append" true) := by
  unfold methRes bmOf; dsimp only; rw [ho]; dsimp only
  rfl
theorem append_w {i : Nat} {xs : List V} (ho : H[i]? = some (.list xs)) (hs : xs.length ≤ maxL) (q : Q .none (H.set i (.list (xs ++ [v])))) : OW (mcall K "list.append" [.ref i, v] H) Q := by
  refine ⟨_, _, ?_, q⟩
  unfold mcall
  dsimp only
  rw [if_pos (by rfl), ho]; dsimp only; rw [if_pos hs]
/-- a call of whatever a name or an expression gives; no generator expression stands alone in it -/
def plainCall : Expr → List Expr → List Keyword → Bool
  | .Attribute .., _, _ => false
  | .Name .., [.GeneratorExp ..], [] => false
  | _, _, _ => true
theorem ev_call {f : Expr} {args : List Expr} {kws : List Keyword} (hk : plainCall f args kws = true) (hs : args.any isStar = false) (h : OW ((run K n).ev sc ρ φ f H) fun fv H1 => LW (evs ((run K n).ev sc ρ φ) args H1) fun vs H2 => LW (evk ((run K n).ev sc ρ φ) kws H2) fun kv H3 =>
    OW (callV K (run K n) fv vs kv H3) Q) : OW ((run K (n + 1)).ev sc ρ φ (.Call f args kws p) H) Q := by
  obtain ⟨fv, H1, e1, vs, H2, e3, kv, H3, e4, z, H4, e5, q⟩ := h
  refine ⟨z, H4, ?_, q⟩
  show stepEv K (run K n) sc ρ φ (.Call f args kws p) H = _
  have key : (if args.any isStar then none else (match (run K n).ev sc ρ φ f H with
    | some (fv, H1) => (match evs ((run K n).ev sc ρ φ) args H1 with
      | some (vs, H2) => (match evk ((run K n).ev sc ρ φ) kws H2 with
        | some (kv, H3) => callV K (run K n) fv vs kv H3
        | none => none)
      | none => none)
    | none => none)) = some (z, H4) := by
    rw [hs, e1]; dsimp only; rw [e3]; dsimp only; rw [e4]; exact e5
  unfold stepEv
  split
  all_goals (try (rename_i heq; cases heq <;> first | (cases hk; done) | exact key))
  rename_i h _ _ _ _
  exact (h _ _ _ _ rfl).elim
theorem call_stat {a : Addr} {args : List V} {kv : List (Str × V)} (hk : keepIn K (.ref a) = true) (h : OW ((run K n).call (.stat a) args kv H) Q) : OW (callV K (run K n) (.stat a) args kv H) Q := by
  obtain ⟨z, H', e, q⟩ := h
  refine ⟨z, H', ?_, q⟩
  unfold callV; dsimp only; rw [if_pos hk]; exact e
theorem call_bi {id : String} {args : List V} (h : OW (bcall K (run K n) id args H) Q) : OW (callV K (run K n) (.bi id) args [] H) Q := h
theorem call_ty {id : String} {args : List V} (h : OW (tcall K id args H) Q) : OW (callV K (run K n) (.type id) args [] H) Q := h

def fnInfo (K : Frag) (a : Addr) : Option (Scope × List Stmt × Arguments × Value) := match K.lookup a with
  | some ⟨_, _, .func fd, _⟩ => if fnOk K fd then (match fd.body with | .stmts b => some (fd.scope, b, fd.params, fd.defaults) | _ => none) else none
  | _ => none
/-- what a def's object says, unasked -/
def infoOf (o : Obj) : Option (Scope × List Stmt × Arguments × Value) := match o with
  | ⟨_, _, .func fd, _⟩ => (match fd.body with | .stmts b => some (fd.scope, b, fd.params, fd.defaults) | _ => none)
  | _ => none
def fnGood (K : Frag) (a : Addr) : Bool := match K.lookup a with
  | some ⟨_, _, .func fd, _⟩ => fnOk K fd
  | _ => false
theorem info_of {a : Addr} {o : Obj} (h : K.lookup a = some o) (g : fnGood K a = true) : fnInfo K a = infoOf o := by
  unfold fnGood at g
  unfold fnInfo
  rw [h] at g ⊢
  split at g
  · rename_i e; cases e; rw [if_pos g]; rfl
  · cases g
def retQ (Q : V → Hp → Prop) : Fl → Loc → Hp → Prop
  | .ret v, _, H => Q v H
  | .next, _, H => Q .none H
  | _, _, _ => False
theorem call_fn {a : Addr} {sc : Scope} {b : List Stmt} {ps : Arguments} {dV : Value} {args : List V} {kv : List (Str × V)} {ρ : Loc} (hf : fnInfo K a = some (sc, b, ps, dV)) (hb : binds K ps dV args kv = some ρ) (hl : (allLocal sc ρ && nodupS (ρ.map (·.1))) = true)
    (h : XW ((run K n).ex sc ρ b H) (retQ Q)) : OW ((run K (n + 1)).call (.stat a) args kv H) Q := by
  unfold fnInfo at hf
  split at hf
  · rename_i fd _ hk
    split at hf
    · rename_i hok
      split at hf
      · rename_i b' hb'
        cases hf
        obtain ⟨f, ρ', H', e, q⟩ := h
        have key : stepCall K (run K n) (.stat a) args kv H = (match (run K n).ex fd.scope ρ b H with
          | some (.ret v, _, H') => some (v, H')
          | some (.next, _, H') => some (.none, H')
          | _ => none) := by
          unfold stepCall; dsimp only; rw [hk]
          show callFn K (run K n) fd args kv H = _
          unfold callFn; simp only [hok, hb', hb, hl, if_true]; all_goals rfl
        cases f with
        | ret v => exact ⟨v, H', by show stepCall K (run K n) (.stat a) args kv H = _; rw [key, e], q⟩
        | next => exact ⟨.none, H', by show stepCall K (run K n) (.stat a) args kv H = _; rw [key, e], q⟩
        | brk => exact q.elim
        | cont => exact q.elim
      · cases hf
    · cases hf
  · cases hf
/-- an own class, made -/
def mkInfo (K : Frag) (C : Addr) : Option Addr := match K.lookup C with
  | some ⟨_, _, .cls _, _⟩ => if makesIn K C then methIn K C "__init__" else none
  | _ => none
theorem call_new {C f : Addr} {args : List V} {kv : List (Str × V)} (hc : mkInfo K C = some f) (h : ∀ i, i = H.length → OW ((run K n).call (.stat f) (.ref i :: args) kv (H ++ [.inst C []])) fun v H' => v = .none ∧ Q (.ref i) H') : OW ((run K (n + 1)).call (.stat C) args kv H) Q := by
  obtain ⟨v, H', e, rfl, q⟩ := h _ rfl
  refine ⟨_, H', ?_, q⟩
  unfold mkInfo at hc
  split at hc
  · rename_i cd _ hk
    split at hc
    · rename_i hm
      show stepCall K (run K n) (.stat C) args kv H = _
      unfold stepCall; dsimp only; rw [hk]; simp only [hm, hc, e, if_true]
    · cases hc
  · cases hc
end
end Mini
namespace Mini
open PySem PySem.W PySem.W.X PySem.Calls PyProof.Rows Builtin

section
variable {K : Frag} {n : Nat} {sc : Scope} {ρ φ : Loc} {H : Hp} {v u : V} {Q : V → Hp → Prop} {T : Bool → Hp → Prop} {X : Fl → Loc → Hp → Prop} {e a b t l : Expr} {p p' : Pos} {x y : Str} {rest : List Stmt}

/-! statements: the first of a row -/
/-- behind a block: go on, or leave -/
def thenW (K : Frag) (n : Nat) (sc : Scope) (rest : List Stmt) (X : Fl → Loc → Hp → Prop) : Fl → Loc → Hp → Prop
  | .next, ρ, H => XW ((run K (n + 1)).ex sc ρ rest H) X
  | .brk, ρ, H => X .brk ρ H
  | .cont, ρ, H => X .cont ρ H
  | .ret v, ρ, H => X (.ret v) ρ H
theorem then_next (h : XW ((run K (n + 1)).ex sc ρ rest H) X) : thenW K n sc rest X .next ρ H := h
theorem then_ret (h : X (.ret v) ρ H) : thenW K n sc rest X (.ret v) ρ H := h
theorem then_brk (h : X .brk ρ H) : thenW K n sc rest X .brk ρ H := h
theorem then_cont (h : X .cont ρ H) : thenW K n sc rest X .cont ρ H := h
theorem ex_nil (h : X .next ρ H) : XW ((run K (n + 1)).ex sc ρ [] H) X := ⟨_, _, _, rfl, h⟩
theorem ex_cons {s : Stmt} (h : XW (step1 K (run K n) sc s ρ H) (thenW K n sc rest X)) : XW ((run K (n + 1)).ex sc ρ (s :: rest) H) X := by
  obtain ⟨f, ρ', H', e, q⟩ := h
  have key : (run K (n + 1)).ex sc ρ (s :: rest) H = (match step1 K (run K n) sc s ρ H with
    | some (.next, ρ', H') => exs (step1 K (run K n) sc) rest ρ' H'
    | x => x) := by
    show exs (step1 K (run K n) sc) (s :: rest) ρ H = _
    conv => lhs; unfold exs
    all_goals rfl
  cases f with
  | next =>
    obtain ⟨f2, ρ2, H2, e2, q2⟩ := q
    exact ⟨f2, ρ2, H2, by rw [key, e]; exact e2, q2⟩
  | brk => exact ⟨_, _, _, by rw [key, e], q⟩
  | cont => exact ⟨_, _, _, by rw [key, e], q⟩
  | ret v => exact ⟨_, _, _, by rw [key, e], q⟩

def isComp : Expr → Bool
  | .ListComp .. | .SetComp .. | .DictComp .. => true
  | _ => false
theorem st_expr (hc : isComp e = false) (h : OW ((run K n).ev sc ρ [] e H) fun _ H' => XW ((run K (n + 1)).ex sc ρ rest H') X) : XW ((run K (n + 1)).ex sc ρ (.Expr e p :: rest) H) X := by
  obtain ⟨v, H', e1, q⟩ := h
  refine ex_cons ⟨.next, ρ, H', ?_, q⟩
  unfold step1
  dsimp only
  split
  · cases hc
  · cases hc
  · cases hc
  · rw [e1]
theorem st_pass (h : XW ((run K (n + 1)).ex sc ρ rest H) X) : XW ((run K (n + 1)).ex sc ρ (.Pass p :: rest) H) X := ex_cons ⟨.next, ρ, H, rfl, h⟩
theorem st_brk (h : X .brk ρ H) : XW ((run K (n + 1)).ex sc ρ (.Break p :: rest) H) X := ex_cons ⟨.brk, ρ, H, rfl, h⟩
theorem st_cont (h : X .cont ρ H) : XW ((run K (n + 1)).ex sc ρ (.Continue p :: rest) H) X := ex_cons ⟨.cont, ρ, H, rfl, h⟩
theorem st_ret0 (h : X (.ret .none) ρ H) : XW ((run K (n + 1)).ex sc ρ (.Return none p :: rest) H) X := ex_cons ⟨.ret .none, ρ, H, rfl, h⟩
theorem st_ret (h : OW ((run K n).ev sc ρ [] e H) fun v H' => X (.ret v) ρ H') : XW ((run K (n + 1)).ex sc ρ (.Return (some e) p :: rest) H) X := by
  obtain ⟨v, H', e1, q⟩ := h
  refine ex_cons ⟨.ret v, ρ, H', ?_, q⟩
  show (match (run K n).ev sc ρ [] e H with | some (v, H') => some (Fl.ret v, ρ, H') | none => none) = _
  rw [e1]
theorem st_if {as bs : List Stmt} (h : TW ((run K n).tr sc ρ [] t H) fun c H' => (c = true → XW ((run K n).ex sc ρ as H') (thenW K n sc rest X)) ∧ (c = false → XW ((run K n).ex sc ρ bs H') (thenW K n sc rest X))) : XW ((run K (n + 1)).ex sc ρ (.If t as bs p :: rest) H) X := by
  obtain ⟨c, H', e, h1, h2⟩ := h
  refine ex_cons ?_
  have key : step1 K (run K n) sc (.If t as bs p) ρ H = (match (run K n).tr sc ρ [] t H with
    | some (true, H') => (run K n).ex sc ρ as H'
    | some (false, H') => (run K n).ex sc ρ bs H'
    | none => none) := rfl
  rw [key, e]
  cases c with
  | true => exact h1 rfl
  | false => exact h2 rfl

/-! targets -/
theorem asg_name {r : Rec} {Q : Loc → Hp → Prop} (h : stores sc x = true) (q : Q (upd x v ρ) H) : AW (asg K r sc φ (.Name x p) v ρ H) Q := by
  refine ⟨_, _, ?_, q⟩
  show (if stores sc x then some (upd x v ρ, H) else none) = _
  rw [if_pos h]
theorem asg_attr {Q : Loc → Hp → Prop} {o : Expr} (h : OW ((run K n).ev sc ρ φ o H) fun ov H' => SW (setAttr K (run K n) ov x v H') fun H2 => Q ρ H2) : AW (asg K (run K n) sc φ (.Attribute o x p) v ρ H) Q := by
  obtain ⟨ov, H1, e1, H2, e2, q⟩ := h
  refine ⟨_, _, ?_, q⟩
  show (match (run K n).ev sc ρ φ o H with | some (ov, H') => (match setAttr K (run K n) ov x v H' with | some H'' => some (ρ, H'') | none => none) | none => none) = _
  rw [e1]; dsimp only; rw [e2]
theorem asg_item {Q : Loc → Hp → Prop} {o i : Expr} (h : OW ((run K n).ev sc ρ φ o H) fun ov H1 => OW ((run K n).ev sc ρ φ i H1) fun iv H2 => SW (setItem ov iv v H2) fun H3 => Q ρ H3) : AW (asg K (run K n) sc φ (.Subscript o i p) v ρ H) Q := by
  obtain ⟨ov, H1, e1, iv, H2, e2, H3, e3, q⟩ := h
  refine ⟨_, _, ?_, q⟩
  show (match (run K n).ev sc ρ φ o H with
    | some (ov, H') => (match (run K n).ev sc ρ φ i H' with
      | some (iv, H'') => (match setItem ov iv v H'' with | some H3 => some (ρ, H3) | none => none)
      | none => none)
    | none => none) = _
  rw [e1]; dsimp only; rw [e2]; dsimp only; rw [e3]
theorem setw_list {i : Nat} {xs : List V} {k : Int} {Q : Hp → Prop} (ho : H[i]? = some (.list xs)) (hs : xs.length < 2 ^ 24) (h0 : 0 ≤ k) (hk : k < xs.length) (q : Q (H.set i (.list (xs.set k.toNat v)))) : SW (setItem (.ref i) (.int k) v H) Q := by
  refine ⟨_, ?_, q⟩
  unfold setItem; dsimp only; rw [ho]; dsimp only
  rw [if_pos hs, if_pos h0, if_pos (by omega)]
theorem setw_dict {i : Nat} {kvs : List (Int × V)} {k : Int} {Q : Hp → Prop} (ho : H[i]? = some (.dict kvs)) (hs : kvs.length < 900) (q : Q (H.set i (.dict (setK k v kvs)))) : SW (setItem (.ref i) (.int k) v H) Q := by
  refine ⟨_, ?_, q⟩
  unfold setItem; dsimp only; rw [ho]; dsimp only
  rw [if_pos hs]
def noTup : Expr → Bool
  | .Tuple .. => false
  | _ => true
theorem asgs_nil {f : Expr → V → Loc → Hp → Option (Loc × Hp)} {Q : Loc → Hp → Prop} (q : Q ρ H) : AW (asgs f [] [] ρ H) Q := ⟨_, _, rfl, q⟩
theorem asgs_cons {f : Expr → V → Loc → Hp → Option (Loc × Hp)} {Q : Loc → Hp → Prop} {ts : List Expr} {vs : List V} (h : AW (f t v ρ H) fun ρ' H' => AW (asgs f ts vs ρ' H') Q) : AW (asgs f (t :: ts) (v :: vs) ρ H) Q := by
  obtain ⟨ρ1, H1, e1, ρ2, H2, e2, q⟩ := h
  refine ⟨_, _, ?_, q⟩
  unfold asgs; rw [e1]; exact e2
theorem asg1_of {r : Rec} {Q : Loc → Hp → Prop} (hn : noTup t = true) (h : AW (asg K r sc φ t v ρ H) Q) : AW (asg1 K r sc φ t v ρ H) Q := by
  obtain ⟨ρ1, H1, e1, q⟩ := h
  refine ⟨ρ1, H1, ?_, q⟩
  rw [← e1]
  unfold asg
  split
  · cases hn
  · rfl
theorem asg_tuple {r : Rec} {ts : List Expr} {k : Nat} {vs : List V} {Q : Loc → Hp → Prop} (hs : ts.any isStar = false) (hu : unpackV K H v ts.length = some vs) (h : AW (asgs (asg1 K r sc φ) ts vs ρ H) Q) : AW (asg K r sc φ (.Tuple ts k p) v ρ H) Q := by
  obtain ⟨ρ1, H1, e1, q⟩ := h
  refine ⟨ρ1, H1, ?_, q⟩
  show (if ts.any isStar then none else (match unpackV K H v ts.length with | some vs => asgs (asg1 K r sc φ) ts vs ρ H | none => none)) = _
  rw [hs, hu]; exact e1
theorem draw_seq {vs : List V} : drawV K H vs.length (.seq vs) = some vs := by
  induction vs with
  | nil => rfl
  | cons v r ih => show (match drawV K H r.length (.seq r) with | some vs => some (v :: vs) | none => none) = _; rw [ih]
theorem unpack_tup {vs : List V} {k : Nat} (hk : vs.length = k) : unpackV K H (.tup vs) k = some vs := by subst hk; exact draw_seq
theorem draw_lst {i : Nat} {xs : List V} (ho : H[i]? = some (.list xs)) : ∀ (m k : Nat), k + m = xs.length → drawV K H m (.lst i k) = some (xs.drop k)
  | 0, k, h => by
    unfold drawV next; simp only [ho]
    have : xs[k]? = none := by rw [List.getElem?_eq_none_iff]; omega
    simp only [this]; rw [List.drop_eq_nil_of_le (by omega)]
  | m + 1, k, h => by
    unfold drawV next; simp only [ho]
    have hk : k < xs.length := by omega
    simp only [List.getElem?_eq_getElem hk, draw_lst ho m (k + 1) (by omega)]
    rw [List.drop_eq_getElem_cons hk]
theorem unpack_list {i : Nat} {xs : List V} {k : Nat} (ho : H[i]? = some (.list xs)) (hk : xs.length = k) : unpackV K H (.ref i) k = some xs := by
  unfold unpackV; dsimp only
  unfold iterOf; dsimp only; rw [ho]; dsimp only
  rw [draw_lst ho k 0 (by omega)]; rfl

theorem st_assign (hc : isComp e = false) (hw : swapped sc t e = some none) (h : OW ((run K n).ev sc ρ [] e H) fun v H' => AW (asg K (run K n) sc [] t v ρ H') fun ρ' H2 => XW ((run K (n + 1)).ex sc ρ' rest H2) X) : XW ((run K (n + 1)).ex sc ρ (.Assign [t] e p :: rest) H) X := by
  obtain ⟨v, H1, e1, ρ2, H2, e2, q⟩ := h
  refine ex_cons ⟨.next, ρ2, H2, ?_, q⟩
  unfold step1
  dsimp only
  split
  · cases hc
  · cases hc
  · cases hc
  · cases hc
  · rw [hw]; dsimp only; rw [e1]; dsimp only; rw [e2]
theorem st_assign_comp {elt : Expr} {g : Comprehension} {sc' : Scope} {pe : Pos} (h : OW (compV K (run K n) sc ρ [] elt g sc' H) fun v H' => AW (asg K (run K n) sc [] t v ρ H') fun ρ' H2 => XW ((run K (n + 1)).ex sc ρ' rest H2) X) : XW ((run K (n + 1)).ex sc ρ (.Assign [t] (.ListComp elt [g] sc' pe) p :: rest) H) X := by
  obtain ⟨v, H1, e1, ρ2, H2, e2, q⟩ := h
  refine ex_cons ⟨.next, ρ2, H2, ?_, q⟩
  unfold step1
  dsimp only
  rw [e1]; dsimp only; rw [e2]
theorem st_swap {names : List Str} (hc : isComp e = false) (hw : swapped sc t e = some (some names)) (h : OW ((run K n).ev sc ρ [] e H) fun v H' => ∃ vs ρ', v = .tup vs ∧ vs.length = names.length ∧ storeRev names vs ρ = some ρ' ∧ XW ((run K (n + 1)).ex sc ρ' rest H') X) : XW ((run K (n + 1)).ex sc ρ (.Assign [t] e p :: rest) H) X := by
  obtain ⟨v, H1, e1, vs, ρ', rfl, hl, hs, q⟩ := h
  refine ex_cons ⟨.next, ρ', H1, ?_, q⟩
  unfold step1
  dsimp only
  split
  · cases hc
  · cases hc
  · cases hc
  · cases hc
  · rw [hw]; dsimp only; rw [e1]; dsimp only; rw [if_pos hl, hs]

theorem st_aug_name {op : Operator} {old : V} (hv : nameV K sc ρ [] x = some old) (hs : stores sc x = true) (h : OW ((run K n).ev sc ρ [] e H) fun v H1 => OW (inop K (run K n) op old v H1) fun new H2 => XW ((run K (n + 1)).ex sc (upd x new ρ) rest H2) X) : XW ((run K (n + 1)).ex sc ρ (.AugAssign (.Name x p') op e p :: rest) H) X := by
  obtain ⟨v, H1, e1, w, H2, e2, q⟩ := h
  refine ex_cons ⟨.next, _, H2, ?_, q⟩
  unfold step1
  dsimp only
  rw [hv]; dsimp only; rw [e1]; dsimp only; rw [e2]; dsimp only; rw [if_pos hs]
theorem st_aug_attr {op : Operator} {o : Expr} (h : OW ((run K n).ev sc ρ [] o H) fun ov H1 => OW (getAttr K (run K n) ov x H1) fun old H2 => OW ((run K n).ev sc ρ [] e H2) fun v H3 => OW (inop K (run K n) op old v H3) fun new H4 => SW (setAttr K (run K n) ov x new H4) fun H5 => XW ((run K (n + 1)).ex sc ρ rest H5) X) : XW ((run K (n + 1)).ex sc ρ (.AugAssign (.Attribute o x p') op e p :: rest) H) X := by
  obtain ⟨ov, H1, e1, old, H2, e2, v, H3, e3, new, H4, e4, H5, e5, q⟩ := h
  refine ex_cons ⟨.next, _, H5, ?_, q⟩
  unfold step1
  dsimp only
  rw [e1]; dsimp only; rw [e2]; dsimp only; rw [e3]; dsimp only; rw [e4]; dsimp only; rw [e5]
theorem st_aug_item {op : Operator} {o i : Expr} (hi : isSlice i = false) (h : OW ((run K n).ev sc ρ [] o H) fun ov H1 => OW ((run K n).ev sc ρ [] i H1) fun w H2 => ∃ iv, w = .int iv ∧ OW (getItem K (run K n) ov (.int iv) H2) fun old H3 => OW ((run K n).ev sc ρ [] e H3) fun v H4 => OW (inop K (run K n) op old v H4) fun new H5 => SW (setItem ov (.int iv) new H5) fun H6 => XW ((run K (n + 1)).ex sc ρ rest H6) X) : XW ((run K (n + 1)).ex sc ρ (.AugAssign (.Subscript o i p') op e p :: rest) H) X := by
  obtain ⟨ov, H1, e1, w, H2, e2, iv, rfl, old, H3, e3, v, H4, e4, new, H5, e5, H6, e6, q⟩ := h
  refine ex_cons ⟨.next, _, H6, ?_, q⟩
  unfold step1
  dsimp only
  rw [hi]
  simp only [e1, e2, e3, e4, e5, e6, Bool.false_eq_true, if_false]
theorem inop_int {op : Operator} {i j k : Int} (hk : intOp op i j = some k) (q : Q (.int k) H) : OW (inop K (run K n) op (.int i) (.int j) H) Q := by
  refine ⟨_, H, ?_, q⟩
  cases op <;> (unfold inop; dsimp only [listOf]; rw [hk])

/-! loops -/
/-- an iterator that gives just these items, the heap being what it may -/
def Gives (K : Frag) (it : It) (vs : List V) : Prop := it = .seq vs
theorem for_seq {turn : V → Loc → Hp → Option (Fl × Loc × Hp)} {I : List V → Loc → Hp → Prop} {X : Fl → Loc → Hp → Prop}
    (step : ∀ v r ρ H, I (v :: r) ρ H → XW (turn v ρ H) fun f ρ' H' => match f with | .next | .cont => I r ρ' H' | .brk => X .next ρ' H' | .ret w => X (.ret w) ρ' H')
    (done : ∀ ρ H, I [] ρ H → X .next ρ H) : ∀ (vs : List V) (m : Nat) (ρ : Loc) (H : Hp), vs.length < m → I vs ρ H → XW (forIt K turn m (.seq vs) ρ H) X
  | [], 0, ρ, H, hm, _ => absurd hm (Nat.not_lt_zero _)
  | [], m + 1, ρ, H, hm, hi => ⟨.next, ρ, H, rfl, done ρ H hi⟩
  | v :: r, 0, ρ, H, hm, _ => absurd hm (Nat.not_lt_zero _)
  | v :: r, m + 1, ρ, H, hm, hi => by
    obtain ⟨f, ρ', H', e, q⟩ := step v r ρ H hi
    have key : forIt K turn (m + 1) (.seq (v :: r)) ρ H = (match turn v ρ H with
      | some (.next, ρ', H') | some (.cont, ρ', H') => forIt K turn m (.seq r) ρ' H'
      | some (.brk, ρ', H') => some (.next, ρ', H')
      | some (.ret v, ρ', H') => some (.ret v, ρ', H')
      | none => none) := by
      conv => lhs; unfold forIt next
      all_goals rfl
    cases f with
    | next =>
      obtain ⟨f2, ρ2, H2, e2, q2⟩ := for_seq step done r m ρ' H' (by simp at hm; omega) q
      exact ⟨f2, ρ2, H2, by rw [key, e]; exact e2, q2⟩
    | cont =>
      obtain ⟨f2, ρ2, H2, e2, q2⟩ := for_seq step done r m ρ' H' (by simp at hm; omega) q
      exact ⟨f2, ρ2, H2, by rw [key, e]; exact e2, q2⟩
    | brk => exact ⟨_, _, _, by rw [key, e], q⟩
    | ret w => exact ⟨_, _, _, by rw [key, e], q⟩
/-- over a range by ones or by another step, counted -/
theorem for_rng {turn : V → Loc → Hp → Option (Fl × Loc × Hp)} {st : Int} {I : Int → Int → Loc → Hp → Prop} {X : Fl → Loc → Hp → Prop}
    (step : ∀ x left ρ H, 0 < left → I x left ρ H → XW (turn (.int x) ρ H) fun f ρ' H' => match f with | .next | .cont => I (x + st) (left - 1) ρ' H' | .brk => X .next ρ' H' | .ret w => X (.ret w) ρ' H')
    (done : ∀ x left ρ H, left ≤ 0 → I x left ρ H → X .next ρ H) : ∀ (m : Nat) (x left : Int) (ρ : Loc) (H : Hp), left < m → 0 < m → I x left ρ H → XW (forIt K turn m (.rng x left st) ρ H) X
  | 0, x, left, ρ, H, hm, h0, _ => absurd h0 (Nat.not_lt_zero _)
  | m + 1, x, left, ρ, H, hm, _, hi => by
    by_cases hl : 0 < left
    · obtain ⟨f, ρ', H', e, q⟩ := step x left ρ H hl hi
      have key : forIt K turn (m + 1) (.rng x left st) ρ H = (match turn (.int x) ρ H with
        | some (.next, ρ', H') | some (.cont, ρ', H') => forIt K turn m (.rng (x + st) (left - 1) st) ρ' H'
        | some (.brk, ρ', H') => some (.next, ρ', H')
        | some (.ret v, ρ', H') => some (.ret v, ρ', H')
        | none => none) := by
        conv => lhs; unfold forIt next; simp only [hl, if_true]
        all_goals rfl
      cases f with
      | next =>
        obtain ⟨f2, ρ2, H2, e2, q2⟩ := for_rng step done m (x + st) (left - 1) ρ' H' (by omega) (by omega) q
        exact ⟨f2, ρ2, H2, by rw [key, e]; exact e2, q2⟩
      | cont =>
        obtain ⟨f2, ρ2, H2, e2, q2⟩ := for_rng step done m (x + st) (left - 1) ρ' H' (by omega) (by omega) q
        exact ⟨f2, ρ2, H2, by rw [key, e]; exact e2, q2⟩
      | brk => exact ⟨_, _, _, by rw [key, e], q⟩
      | ret w => exact ⟨_, _, _, by rw [key, e], q⟩
    · refine ⟨.next, ρ, H, ?_, done x left ρ H (by omega) hi⟩
      unfold forIt next; simp only [hl, if_false]
/-- over a list of the heap that the turns leave alone -/
theorem for_lst {turn : V → Loc → Hp → Option (Fl × Loc × Hp)} {i : Nat} {xs : List V} {I : Nat → Loc → Hp → Prop} {X : Fl → Loc → Hp → Prop}
    (hI : ∀ k ρ H, I k ρ H → H[i]? = some (.list xs))
    (step : ∀ (k : Nat) (h : k < xs.length) ρ H, I k ρ H → XW (turn xs[k] ρ H) fun f ρ' H' => match f with | .next | .cont => I (k + 1) ρ' H' | .brk => X .next ρ' H' | .ret w => X (.ret w) ρ' H')
    (done : ∀ ρ H, I xs.length ρ H → X .next ρ H) : ∀ (m k : Nat) (ρ : Loc) (H : Hp), k ≤ xs.length → xs.length - k < m → I k ρ H → XW (forIt K turn m (.lst i k) ρ H) X
  | 0, k, ρ, H, _, hm, _ => absurd hm (Nat.not_lt_zero _)
  | m + 1, k, ρ, H, hk, hm, hi => by
    have ho := hI _ _ _ hi
    by_cases hl : k < xs.length
    · obtain ⟨f, ρ', H', e, q⟩ := step k hl ρ H hi
      have key : forIt K turn (m + 1) (.lst i k) ρ H = (match turn xs[k] ρ H with
        | some (.next, ρ', H') | some (.cont, ρ', H') => forIt K turn m (.lst i (k + 1)) ρ' H'
        | some (.brk, ρ', H') => some (.next, ρ', H')
        | some (.ret v, ρ', H') => some (.ret v, ρ', H')
        | none => none) := by
        conv => lhs; unfold forIt next; simp only [ho, List.getElem?_eq_getElem hl]
        all_goals rfl
      cases f with
      | next =>
        obtain ⟨f2, ρ2, H2, e2, q2⟩ := for_lst hI step done m (k + 1) ρ' H' (by omega) (by omega) q
        exact ⟨f2, ρ2, H2, by rw [key, e]; exact e2, q2⟩
      | cont =>
        obtain ⟨f2, ρ2, H2, e2, q2⟩ := for_lst hI step done m (k + 1) ρ' H' (by omega) (by omega) q
        exact ⟨f2, ρ2, H2, by rw [key, e]; exact e2, q2⟩
      | brk => exact ⟨_, _, _, by rw [key, e], q⟩
      | ret w => exact ⟨_, _, _, by rw [key, e], q⟩
    · have : k = xs.length := by omega
      subst this
      refine ⟨.next, ρ, H, ?_, done ρ H hi⟩
      unfold forIt next; simp only [ho, List.getElem?_eq_none (Nat.le_refl _)]
theorem st_for {iter : Expr} {body : List Stmt} (h : LW (evIt K (run K n) sc ρ [] iter H) fun it H1 => XW (forIt K (fun v ρ H => match asg K (run K n) sc [] t v ρ H with
        | some (ρ', H') => (run K n).ex sc ρ' body H'
        | none => none) LF it ρ H1) (thenW K n sc rest X)) : XW ((run K (n + 1)).ex sc ρ (.For t iter body [] p :: rest) H) X := by
  obtain ⟨it, H1, e1, f, ρ', H', e2, q⟩ := h
  refine ex_cons ⟨f, ρ', H', ?_, q⟩
  unfold step1
  dsimp only
  rw [e1]; exact e2
theorem turn_w {body : List Stmt} (h : AW (asg K (run K n) sc [] t v ρ H) fun ρ' H' => XW ((run K n).ex sc ρ' body H') X) : XW (match asg K (run K n) sc [] t v ρ H with
        | some (ρ', H') => (run K n).ex sc ρ' body H'
        | none => none) X := by
  obtain ⟨ρ1, H1, e1, f, ρ', H', e2, q⟩ := h
  exact ⟨f, ρ', H', by rw [e1]; exact e2, q⟩
def isSetE' : Expr → Bool
  | .Set .. => true
  | _ => false
theorem it_w {r : Rec} {Q : It → Hp → Prop} (hs : isSetE' e = false) (h : OW (r.ev sc ρ φ e H) fun v H' => LW (itOf K r v H') Q) : LW (evIt K r sc ρ φ e H) Q := by
  obtain ⟨v, H1, e1, it, H2, e2, q⟩ := h
  refine ⟨it, H2, ?_, q⟩
  unfold evIt
  split
  · cases hs
  · unfold evItP; rw [e1]; exact e2
theorem itOf_some {r : Rec} {Q : It → Hp → Prop} {it : It} (h : iterOf K H v = some it) (q : Q it H) : LW (itOf K r v H) Q := by
  refine ⟨it, H, ?_, q⟩
  unfold itOf; rw [h]
theorem st_while {body : List Stmt} (h : XW (whileL (fun ρ H => (run K n).tr sc ρ [] t H) (fun ρ H => (run K n).ex sc ρ body H) LF ρ H) (thenW K n sc rest X)) : XW ((run K (n + 1)).ex sc ρ (.While t body [] p :: rest) H) X := ex_cons h
/-- a while by a measure -/
theorem while_w {test : Loc → Hp → Option (Bool × Hp)} {body : Loc → Hp → Option (Fl × Loc × Hp)} {I : Nat → Loc → Hp → Prop} {X : Fl → Loc → Hp → Prop}
    (turn : ∀ k ρ H, I k ρ H → TW (test ρ H) fun c H' => (c = true → XW (body ρ H') fun f ρ' H'' => match f with | .next | .cont => ∃ j, j < k ∧ I j ρ' H'' | .brk => X .next ρ' H'' | .ret w => X (.ret w) ρ' H'') ∧ (c = false → X .next ρ H')) : ∀ (m k : Nat) (ρ : Loc) (H : Hp), k < m → I k ρ H → XW (whileL test body m ρ H) X
  | 0, k, ρ, H, hm, _ => absurd hm (Nat.not_lt_zero _)
  | m + 1, k, ρ, H, hm, hi => by
    obtain ⟨c, H1, e, h1, h2⟩ := turn k ρ H hi
    cases c with
    | false => exact ⟨.next, ρ, H1, by unfold whileL; rw [e], h2 rfl⟩
    | true =>
      obtain ⟨f, ρ', H', e', q⟩ := h1 rfl
      have key : whileL test body (m + 1) ρ H = (match body ρ H1 with
        | some (.next, ρ', H'') | some (.cont, ρ', H'') => whileL test body m ρ' H''
        | some (.brk, ρ', H'') => some (.next, ρ', H'')
        | some (.ret v, ρ', H'') => some (.ret v, ρ', H'')
        | none => none) := by
        conv => lhs; unfold whileL; rw [e]
        all_goals rfl
      cases f with
      | next =>
        obtain ⟨j, hj, qj⟩ := q
        obtain ⟨f2, ρ2, H2, e2, q2⟩ := while_w turn m j ρ' H' (by omega) qj
        exact ⟨f2, ρ2, H2, by rw [key, e']; exact e2, q2⟩
      | cont =>
        obtain ⟨j, hj, qj⟩ := q
        obtain ⟨f2, ρ2, H2, e2, q2⟩ := while_w turn m j ρ' H' (by omega) qj
        exact ⟨f2, ρ2, H2, by rw [key, e']; exact e2, q2⟩
      | brk => exact ⟨_, _, _, by rw [key, e'], q⟩
      | ret w => exact ⟨_, _, _, by rw [key, e'], q⟩
end
def psOf (o : Obj) : Arguments := match infoOf o with | some (_, _, ps, _) => ps | none => default
def dfOf (o : Obj) : Value := match infoOf o with | some (_, _, _, d) => d | none => .none
def scOf (o : Obj) : Scope := match infoOf o with | some (s, _, _, _) => s | none => default
def bdOf (o : Obj) : List Stmt := match infoOf o with | some (_, b, _, _) => b | none => []
theorem info_at {K : Frag} {a : Addr} {o : Obj} (h : K.lookup a = some o) (g : fnGood K a = true) (i : (infoOf o).isSome = true) : fnInfo K a = some (scOf o, bdOf o, psOf o, dfOf o) := by
  rw [info_of h g]
  unfold scOf bdOf psOf dfOf
  cases e : infoOf o with
  | none => rw [e] at i; cases i
  | some x => rfl
theorem body_w {K : Frag} {n : Nat} {sc : Scope} {ρ : Loc} {H : Hp} {X : Fl → Loc → Hp → Prop} {z : Obj} {s : Stmt} {r : List Stmt} (h : bdOf z = s :: r) (q : XW ((run K (n + 1)).ex sc ρ (s :: r) H) X) : XW ((run K (n + 1)).ex sc ρ (bdOf z) H) X := by rw [h]; exact q
end Mini
namespace Mini
open PySem PySem.W PySem.W.X PySem.Calls PyProof.Rows Builtin

theorem iop_add {a b : Int} : intOp .Add a b = some (a + b) := rfl
theorem iop_sub {a b : Int} : intOp .Sub a b = some (a - b) := rfl
theorem iop_mul {a b : Int} (ha : a.natAbs < 2 ^ 63) (hb : b.natAbs < 2 ^ 63) : intOp .Mult a b = some (a * b) := by
  show (if a.natAbs < 2 ^ 63 ∧ b.natAbs < 2 ^ 63 then some (a * b) else none) = _
  rw [if_pos ⟨ha, hb⟩]
theorem iop_div {a b : Int} (hb : 0 < b) (hs : b < 1000000000) : intOp .FloorDiv a b = some (a / b) := by
  show (if b = 0 then none else if b.natAbs < 1000000000 then some (a.fdiv b) else none) = _
  rw [if_neg (by omega), if_pos (by omega), Int.fdiv_eq_ediv_of_nonneg _ (by omega)]
theorem iop_mod {a b : Int} (hb : 0 < b) : intOp .Mod a b = some (a % b) := by
  show (if b = 0 then none else some (a.fmod b)) = _
  rw [if_neg (by omega), Int.fmod_eq_emod_of_nonneg _ (by omega)]
theorem iop_shl {a b : Int} (h0 : 0 ≤ b) (h1 : b ≤ 1000) (ha : a.natAbs < 2 ^ 64) : intOp .LShift a b = some (a * 2 ^ b.toNat) := by
  show (if 0 ≤ b ∧ b ≤ 1000 ∧ a.natAbs < 2 ^ 64 then some (a * 2 ^ b.toNat) else none) = _
  rw [if_pos ⟨h0, h1, ha⟩]
theorem iop_shr {a b : Int} (h0 : 0 ≤ b) : intOp .RShift a b = some (a / 2 ^ b.toNat) := by
  show (if 0 ≤ b then some (a.fdiv (2 ^ b.toNat)) else none) = _
  rw [if_pos h0, Int.fdiv_eq_ediv_of_nonneg _ (Int.pow_nonneg (by decide))]
theorem iop_and {a b : Int} : intOp .BitAnd a b = some (Builtin.bitAnd a b) := rfl
theorem iop_or {a b : Int} : intOp .BitOr a b = some (Builtin.bitOr a b) := rfl
theorem iop_xor {a b : Int} : intOp .BitXor a b = some (Builtin.bitXor a b) := rfl

/-! the heap -/
theorem hp_set_self {H : Hp} {i : Nat} {o o' : O} (h : H[i]? = some o') : (H.set i o)[i]? = some o := by
  rw [List.getElem?_set_self (List.getElem?_eq_some_iff.mp h).1]
theorem hp_set_ne {H : Hp} {i j : Nat} {o o' : O} (hn : j ≠ i) (h : H[i]? = some o) : (H.set j o')[i]? = some o := by
  rw [List.getElem?_set_ne hn]; exact h
theorem hp_app {H B : Hp} {i : Nat} {o : O} (h : H[i]? = some o) : (H ++ B)[i]? = some o := by
  rw [List.getElem?_append_left (List.getElem?_eq_some_iff.mp h).1]; exact h
theorem hp_new {H : Hp} {i : Nat} {x : O} (h : i = H.length) : (H ++ [x])[i]? = some x := by subst h; simp
theorem hp_lt {H : Hp} {i : Nat} {o : O} (h : H[i]? = some o) : i < H.length := (List.getElem?_eq_some_iff.mp h).1

/-! truth -/
theorem tru_bool {K : Frag} {H : Hp} {b : Bool} : truthy K H (.bool b) = some b := rfl
theorem tru_int {K : Frag} {H : Hp} {i : Int} : truthy K H (.int i) = some (!(i == 0)) := rfl
theorem tru_none {K : Frag} {H : Hp} : truthy K H .none = some false := rfl
theorem tru_list {K : Frag} {H : Hp} {i : Nat} {xs : List V} (ho : H[i]? = some (.list xs)) (hs : xs.length ≤ maxL) : truthy K H (.ref i) = some (!xs.isEmpty) := by
  have : listOf K H (.ref i) = some xs := by unfold listOf; dsimp only; rw [ho]
  unfold truthy; simp only [this, if_pos hs]
theorem cmp_lt {K : Frag} {H : Hp} {x y : Int} : cmpV K H .Lt (.int x) (.int y) = some (decide (x < y)) := rfl
theorem cmp_le {K : Frag} {H : Hp} {x y : Int} : cmpV K H .LtE (.int x) (.int y) = some (decide (x ≤ y)) := rfl
theorem cmp_gt {K : Frag} {H : Hp} {x y : Int} : cmpV K H .Gt (.int x) (.int y) = some (decide (y < x)) := rfl
theorem cmp_ge {K : Frag} {H : Hp} {x y : Int} : cmpV K H .GtE (.int x) (.int y) = some (decide (y ≤ x)) := rfl
theorem cmp_eq {K : Frag} {H : Hp} {x y : Int} : cmpV K H .Eq (.int x) (.int y) = some (x == y) := rfl
theorem cmp_ne {K : Frag} {H : Hp} {x y : Int} : cmpV K H .NotEq (.int x) (.int y) = some (!(x == y)) := rfl

/-! built-ins -/
section
variable {K : Frag} {n : Nat} {H : Hp} {Q : V → Hp → Prop}
theorem lenw_list {r : Rec} {i : Nat} {xs : List V} (ho : H[i]? = some (.list xs)) (hs : xs.length < 2 ^ 40) (q : Q (.int (xs.length : Int)) H) : OW (bcall K r "len" [.ref i] H) Q := by
  have hl : listOf K H (.ref i) = some xs := by unfold listOf; dsimp only; rw [ho]
  refine ⟨_, H, ?_, q⟩
  unfold bcall
  dsimp only
  rw [if_pos (by rfl)]
  unfold lenV
  simp only [hl, if_pos hs]
theorem lenw_bytes {r : Rec} {b : Array UInt8} (hs : b.size < 2 ^ 40) (q : Q (.int (b.size : Int)) H) : OW (bcall K r "len" [.bytes b] H) Q := by
  refine ⟨_, H, ?_, q⟩
  unfold bcall
  dsimp only
  rw [if_pos (by rfl)]
  unfold lenV
  simp only [if_pos hs]
theorem lenw_tup {r : Rec} {b : List V} (hs : b.length < 2 ^ 40) (q : Q (.int (b.length : Int)) H) : OW (bcall K r "len" [.tup b] H) Q := by
  refine ⟨_, H, ?_, q⟩
  unfold bcall
  dsimp only
  rw [if_pos (by rfl)]
  unfold lenV
  simp only [if_pos hs]
theorem lenw_inst {r : Rec} {i : Nat} {C f : Addr} {fs : List (Str × V)} (ho : H[i]? = some (.inst C fs)) (hm : methIn K C "__len__" = some f) (h : OW (r.call (.stat f) [.ref i] [] H) fun v H' => ∃ k, v = .int k ∧ 0 ≤ k ∧ k < big ∧ Q (.int k) H') : OW (bcall K r "len" [.ref i] H) Q := by
  have hl : listOf K H (.ref i) = none := by unfold listOf; dsimp only; rw [ho]
  obtain ⟨v, H', e, k, rfl, h0, h1, q⟩ := h
  refine ⟨_, H', ?_, q⟩
  unfold bcall
  dsimp only
  rw [if_pos (by rfl)]
  unfold lenV
  simp only [hl, ho, hm, e, h0, h1, and_self, if_true]
theorem range_1 {i : Int} (q : Q (.rng 0 i 1) H) : OW (tcall K "range" [.int i] H) Q := ⟨_, H, rfl, q⟩
theorem range_2 {i j : Int} (q : Q (.rng i j 1) H) : OW (tcall K "range" [.int i, .int j] H) Q := ⟨_, H, rfl, q⟩
theorem range_3 {i j k : Int} (hk : k ≠ 0) (hs : k.natAbs < 1000000000) (q : Q (.rng i j k) H) : OW (tcall K "range" [.int i, .int j, .int k] H) Q := by
  refine ⟨_, H, ?_, q⟩
  unfold tcall
  dsimp only
  rw [if_pos (by rfl), if_neg (by omega)]
theorem int_int {i : Int} (q : Q (.int i) H) : OW (tcall K "int" [.int i] H) Q := ⟨_, H, rfl, q⟩

/-! items -/
theorem item_list {r : Rec} {i : Nat} {xs : List V} {k : Int} {v : V} (ho : H[i]? = some (.list xs)) (hs : xs.length < 2 ^ 24) (h0 : 0 ≤ k) (hv : xs[k.toNat]? = some v) (q : Q v H) : OW (getItem K r (.ref i) (.int k) H) Q := by
  have hl : listOf K H (.ref i) = some xs := by unfold listOf; dsimp only; rw [ho]
  have hb : k < big := by
    have := (List.getElem?_eq_some_iff.mp hv).1
    unfold big; omega
  refine ⟨v, H, ?_, q⟩
  unfold getItem
  dsimp only
  unfold getItemL
  simp only [hl]
  unfold atI
  rw [if_pos hs, if_pos h0, if_pos hb, hv]
theorem item_list_neg {r : Rec} {i : Nat} {xs : List V} {k : Int} {v : V} (ho : H[i]? = some (.list xs)) (hs : xs.length < 2 ^ 24) (h0 : k < 0) (h1 : 0 ≤ k + xs.length) (hv : xs[(k + xs.length).toNat]? = some v) (q : Q v H) : OW (getItem K r (.ref i) (.int k) H) Q := by
  have hl : listOf K H (.ref i) = some xs := by unfold listOf; dsimp only; rw [ho]
  refine ⟨v, H, ?_, q⟩
  unfold getItem
  dsimp only
  unfold getItemL
  simp only [hl]
  unfold atI
  rw [if_pos hs, if_neg (by omega), if_pos h1, hv]
theorem item_stat {r : Rec} {a : Addr} {xs : List V} {k : Int} {v : V} (hl : listOf K [] (.stat a) = some xs) (hs : xs.length < 2 ^ 24) (h0 : 0 ≤ k) (hv : xs[k.toNat]? = some v) (q : Q v H) : OW (getItem K r (.stat a) (.int k) H) Q := by
  have hl : listOf K H (.stat a) = some xs := hl
  have hb : k < big := by
    have := (List.getElem?_eq_some_iff.mp hv).1
    unfold big; omega
  refine ⟨v, H, ?_, q⟩
  unfold getItem
  dsimp only
  unfold getItemL
  simp only [hl]
  unfold atI
  rw [if_pos hs, if_pos h0, if_pos hb, hv]
theorem item_tup {r : Rec} {xs : List V} {k : Int} {v : V} (hs : xs.length < 2 ^ 24) (h0 : 0 ≤ k) (hv : xs[k.toNat]? = some v) (q : Q v H) : OW (getItem K r (.tup xs) (.int k) H) Q := by
  have hb : k < big := by
    have := (List.getElem?_eq_some_iff.mp hv).1
    unfold big; omega
  refine ⟨v, H, ?_, q⟩
  unfold getItem
  dsimp only
  unfold atI
  rw [if_pos hs, if_pos h0, if_pos hb, hv]
theorem item_statd {r : Rec} {a : Addr} {kvs : List (Int × V)} {k : Int} {v : V} (hl : listOf K [] (.stat a) = none) (hd : dictOfV K [] (.stat a) = some kvs) (hv : findK k kvs = some v) (q : Q v H) : OW (getItem K r (.stat a) (.int k) H) Q := by
  have hl : listOf K H (.stat a) = none := hl
  have hd : dictOfV K H (.stat a) = some kvs := hd
  refine ⟨v, H, ?_, q⟩
  unfold getItem
  dsimp only
  unfold getItemL
  simp only [hl, hd, hv]
theorem item_slice_list {r : Rec} {i : Nat} {xs : List V} {lo hi : Option Int} (ho : H[i]? = some (.list xs)) (hs : xs.length ≤ maxL) (h : OW (newL (cut xs lo hi) H) Q) : OW (getItem K r (.ref i) (.slc lo hi) H) Q := by
  have hl : listOf K H (.ref i) = some xs := by unfold listOf; dsimp only; rw [ho]
  obtain ⟨v, H', e, q⟩ := h
  refine ⟨v, H', ?_, q⟩
  unfold getItem
  dsimp only
  unfold getItemL
  simp only [hl, if_pos hs]
  exact e
theorem item_slice_bytes {r : Rec} {b : Array UInt8} {lo hi : Option Int} (hs : b.size ≤ maxL) (q : Q (.bytes (cut b.toList lo hi).toArray) H) : OW (getItem K r (.bytes b) (.slc lo hi) H) Q := by
  refine ⟨_, H, ?_, q⟩
  unfold getItem
  dsimp only
  rw [if_pos hs]
end
end Mini
namespace Mini
open PySem PySem.W PySem.W.X PySem.Calls PyProof.Rows Builtin
section
variable {K : Frag} {n : Nat} {H : Hp} {sc : Scope} {ρ φ : Loc}
theorem range_up {a b c : Int} (ha : -1000000000 < a ∧ a < 1000000000) (hb : -1000000000 < b ∧ b < 1000000000) (hc : 0 < c ∧ c < 1000000000) : Range.small a b c = true ∧ Range.rangeSize a b c = if a < b then (b - a - 1) / c + 1 else 0 := by
  refine ⟨?_, ?_⟩
  · unfold Range.small Range.rangeFitsLong Range.rangeSize; simp
    have e : 0 < c := hc.1
    simp only [e, if_true]
    by_cases h : a < b
    · have h1 : 0 ≤ (b - a - 1) / c := Int.ediv_nonneg (by omega) (by omega)
      have h2 : (b - a - 1) / c ≤ b - a - 1 := Int.ediv_le_self c (by omega)
      simp only [h, if_true]
      generalize (b - a - 1) / c = z at *
      omega
    · simp only [h, if_false]; omega
  · unfold Range.rangeSize; rw [if_pos (by omega)]
theorem it_rng {r : Rec} {Q : It → Hp → Prop} {a b c : Int} (ha : -1000000000 < a ∧ a < 1000000000) (hb : -1000000000 < b ∧ b < 1000000000) (hc : 0 < c ∧ c < 1000000000) (q : Q (.rng a (if a < b then (b - a - 1) / c + 1 else 0) c) H) : LW (itOf K r (.rng a b c) H) Q := by
  obtain ⟨h1, h2⟩ := range_up ha hb hc
  refine itOf_some ?_ q
  unfold iterOf; dsimp only; rw [if_pos h1, h2]
theorem it_rng1 {r : Rec} {Q : It → Hp → Prop} {a b : Int} (ha : -1000000000 < a ∧ a < 1000000000) (hb : -1000000000 < b ∧ b < 1000000000) (q : Q (.rng a (b - a) 1) H) (q0 : b < a → Q (.rng a 0 1) H) : LW (itOf K r (.rng a b 1) H) Q := by
  refine it_rng ha hb ⟨by decide, by decide⟩ ?_
  by_cases h : a < b
  · rw [if_pos h, Int.ediv_one]
    have : b - a - 1 + 1 = b - a := by omega
    rw [this]; exact q
  · rw [if_neg h]
    by_cases h2 : b < a
    · exact q0 h2
    · have : b - a = 0 := by omega
      rw [this] at q; exact q
theorem it_bytes {r : Rec} {Q : It → Hp → Prop} {b : Array UInt8} (q : Q (.seq (bytesL b)) H) : LW (itOf K r (.bytes b) H) Q := itOf_some rfl q
theorem it_tup {r : Rec} {Q : It → Hp → Prop} {b : List V} (q : Q (.seq b) H) : LW (itOf K r (.tup b) H) Q := itOf_some rfl q
theorem it_list {r : Rec} {Q : It → Hp → Prop} {i : Nat} {xs : List V} (ho : H[i]? = some (.list xs)) (q : Q (.lst i 0) H) : LW (itOf K r (.ref i) H) Q := by
  refine itOf_some ?_ q
  unfold iterOf; dsimp only; rw [ho]
theorem it_stat {r : Rec} {Q : It → Hp → Prop} {a : Addr} {xs : List V} (hl : listOf K [] (.stat a) = some xs) (q : Q (.seq xs) H) : LW (itOf K r (.stat a) H) Q := by
  have hl : listOf K H (.stat a) = some xs := hl
  refine itOf_some ?_ q
  unfold iterOf; dsimp only; rw [hl]
/-- a loop over range(a, b), by the number of the turn -/
theorem for_up {turn : V → Loc → Hp → Option (Fl × Loc × Hp)} {X : Fl → Loc → Hp → Prop} {a c : Int} {m : Int} (I : Nat → Loc → Hp → Prop)
    (hm : m < 100000) (h0 : I 0 ρ H)
    (step : ∀ (k : Nat) ρ H, (k : Int) < m → I k ρ H → XW (turn (.int (a + k * c)) ρ H) fun f ρ' H' => match f with | .next | .cont => I (k + 1) ρ' H' | .brk => X .next ρ' H' | .ret w => X (.ret w) ρ' H')
    (done : ∀ ρ H, I m.toNat ρ H → X .next ρ H) : XW (forIt K turn LF (.rng a m c) ρ H) X := by
  refine for_rng (I := fun x left ρ H => ∃ k : Nat, x = a + k * c ∧ ((left = m - k ∧ 0 ≤ left) ∨ (left = m ∧ m ≤ 0 ∧ k = 0)) ∧ I k ρ H) ?_ ?_ LF a m ρ H (by show m < 100000; omega) (by decide) ⟨0, by simp, ?_, h0⟩
  · rintro x left ρ H hl ⟨k, rfl, hk, hi⟩
    obtain ⟨f, ρ', H', e, q⟩ := step k ρ H (by omega) hi
    refine ⟨f, ρ', H', e, ?_⟩
    have key : I (k + 1) ρ' H' → ∃ j : Nat, a + k * c + c = a + j * c ∧ ((left - 1 = m - j ∧ 0 ≤ left - 1) ∨ (left - 1 = m ∧ m ≤ 0 ∧ j = 0)) ∧ I j ρ' H' := fun h => ⟨k + 1, by rw [Int.natCast_add, Int.add_mul]; omega, by omega, h⟩
    cases f with
    | next => exact key q
    | cont => exact key q
    | brk => exact q
    | ret w => exact q
  · rintro x left ρ H hl ⟨k, rfl, hk, hi⟩
    have : k = m.toNat := by omega
    subst this
    exact done ρ H hi
  · omega
/-- a loop over written or known items, by the items behind it -/
theorem for_items {turn : V → Loc → Hp → Option (Fl × Loc × Hp)} {X : Fl → Loc → Hp → Prop} {vs : List V} (I : Nat → Loc → Hp → Prop)
    (hm : vs.length < 100000) (h0 : I 0 ρ H)
    (step : ∀ (k : Nat) (hk : k < vs.length) ρ H, I k ρ H → XW (turn vs[k] ρ H) fun f ρ' H' => match f with | .next | .cont => I (k + 1) ρ' H' | .brk => X .next ρ' H' | .ret w => X (.ret w) ρ' H')
    (done : ∀ ρ H, I vs.length ρ H → X .next ρ H) : XW (forIt K turn LF (.seq vs) ρ H) X := by
  refine for_seq (I := fun us ρ H => ∃ k : Nat, us = vs.drop k ∧ k ≤ vs.length ∧ I k ρ H) ?_ ?_ vs LF ρ H hm ⟨0, rfl, Nat.zero_le _, h0⟩
  · rintro v r ρ H ⟨k, e, hk, hi⟩
    have hlt : k < vs.length := by
      rcases Nat.lt_or_ge k vs.length with h | h
      · exact h
      · rw [List.drop_eq_nil_of_le h] at e; cases e
    rw [List.drop_eq_getElem_cons hlt] at e
    cases e
    obtain ⟨f, ρ', H', e, q⟩ := step k hlt ρ H hi
    refine ⟨f, ρ', H', e, ?_⟩
    cases f with
    | next => exact ⟨k + 1, rfl, hlt, q⟩
    | cont => exact ⟨k + 1, rfl, hlt, q⟩
    | brk => exact q
    | ret w => exact q
  · rintro ρ H ⟨k, e, hk, hi⟩
    have : vs.length ≤ k := by
      have := congrArg List.length e
      simp at this; omega
    have : k = vs.length := by omega
    subst this
    exact done ρ H hi
end
end Mini
namespace Mini
open PySem PySem.W PySem.W.X PySem.Calls PyProof.Rows Builtin
section
variable {K : Frag} {n : Nat} {H : Hp} {sc : Scope} {ρ φ : Loc} {Q : V → Hp → Prop} {v u : V} {x : Str}

theorem putF_lt {fs : List (Str × V)} {m : Nat} (h : fs.length < m) : (putF x v fs).length < m + 1 := by
  have : ∀ fs : List (Str × V), (putF x v fs).length ≤ fs.length + 1 := by
    intro fs
    induction fs with
    | nil => exact Nat.le_refl _
    | cons p r ih =>
      obtain ⟨y, w⟩ := p
      unfold putF
      split
      · simp
      · simp only [List.length_cons]; omega
  have := this fs
  omega
/-! comprehensions -/
theorem comp_w {elt : Expr} {g : Comprehension} {sc' : Scope} (hg : g.is_async = 0) (hok : compOk sc ρ φ sc' = true)
    (h : LW (evIt K (run K n) sc ρ φ g.iter H) fun it H1 => XW (forIt K (compTurnV K (run K n) sc' (freeOf sc ρ φ sc'.names) elt g H1.length) LF it [] (H1 ++ [.list []])) fun f _ H2 => f = .next ∧ Q (.ref H1.length) H2) : OW (compV K (run K n) sc ρ φ elt g sc' H) Q := by
  obtain ⟨it, H1, e1, f, ρ2, H2, e2, rfl, q⟩ := h
  refine ⟨_, H2, ?_, q⟩
  unfold compV
  have hc : (compOk sc ρ φ sc' && g.is_async == 0) = true := by rw [hok, hg]; rfl
  rw [if_pos hc, e1]; dsimp only; rw [e2]
theorem ev_comp {elt : Expr} {g : Comprehension} {sc' : Scope} {p : Pos} (h : OW (compV K (run K n) sc ρ φ elt g sc' H) Q) : OW ((run K (n + 1)).ev sc ρ φ (.ListComp elt [g] sc' p) H) Q := h
/-- a turn without a test -/
theorem comp_turn {elt tg it : Expr} {a : Nat} {i : Nat} {X : Fl → Loc → Hp → Prop} (h : AW (asg K (run K n) sc φ tg v ρ H) fun ρ' H1 => OW ((run K n).ev sc ρ' φ elt H1) fun u H2 => ∃ xs, H2[i]? = some (.list xs) ∧ xs.length ≤ maxL ∧ X .next ρ' (H2.set i (.list (xs ++ [u])))) : XW (compTurnV K (run K n) sc φ elt ⟨tg, it, [], a⟩ i v ρ H) X := by
  obtain ⟨ρ', H1, e1, u, H2, e2, xs, e3, hl, q⟩ := h
  refine ⟨_, _, _, ?_, q⟩
  unfold compTurnV
  dsimp only
  rw [e1]; dsimp only
  unfold allTr
  dsimp only
  rw [e2]; dsimp only; rw [e3]; dsimp only; rw [if_pos hl]
theorem comp_turn_if {elt tg it t : Expr} {a : Nat} {i : Nat} {X : Fl → Loc → Hp → Prop} (h : AW (asg K (run K n) sc φ tg v ρ H) fun ρ' H1 => TW ((run K n).tr sc ρ' φ t H1) fun c H2 => (c = true → OW ((run K n).ev sc ρ' φ elt H2) fun u H3 => ∃ xs, H3[i]? = some (.list xs) ∧ xs.length ≤ maxL ∧ X .next ρ' (H3.set i (.list (xs ++ [u])))) ∧ (c = false → X .next ρ' H2)) : XW (compTurnV K (run K n) sc φ elt ⟨tg, it, [t], a⟩ i v ρ H) X := by
  obtain ⟨ρ', H1, e1, c, H2, e2, h1, h2⟩ := h
  cases c with
  | true =>
    obtain ⟨u, H3, e3, xs, e4, hl, q⟩ := h1 rfl
    refine ⟨_, _, _, ?_, q⟩
    unfold compTurnV
    dsimp only
    rw [e1]; dsimp only
    unfold allTr; rw [e2]; dsimp only; unfold allTr; dsimp only
    rw [e3]; dsimp only; rw [e4]; dsimp only; rw [if_pos hl]
  | false =>
    refine ⟨_, _, _, ?_, h2 rfl⟩
    unfold compTurnV
    dsimp only
    rw [e1]; dsimp only
    unfold allTr; rw [e2]

/-! bytes -/
theorem findB_range (k : Nat) : ∀ (l : List UInt8) (i : Nat), findB k i l = -1 ∨ (0 ≤ findB k i l ∧ findB k i l < i + l.length)
  | [], i => .inl rfl
  | u :: r, i => by
    unfold findB
    split
    · refine .inr ⟨by omega, by simp only [List.length_cons]; omega⟩
    · rcases findB_range k r (i + 1) with h | h
      · exact .inl h
      · refine .inr ⟨h.1, ?_⟩
        have := h.2
        simp only [List.length_cons]; omega
theorem find_w {b : Array UInt8} {c : Array UInt8} (hc : c.size = 1) (hb : b.size < 1000) (q : ∀ k : Int, -1 ≤ k ∧ k < 1000 → Q (.int k) H) : OW (mcall K "bytes.find" [.bytes b, .bytes c] H) Q := by
  refine ⟨_, H, ?_, q (findB (c.getD 0 0).toNat 0 b.toList) ?_⟩
  · unfold mcall
    dsimp only
    rw [if_pos (by rfl), if_pos ⟨hc, hb⟩]
  · have := findB_range (c.getD 0 0).toNat b.toList 0
    rw [Array.length_toList] at this
    omega
theorem isdigit_w {b : Array UInt8} (q : Q (.bool (isDigits b.toList)) H) : OW (mcall K "bytes.isdigit" [.bytes b] H) Q := by
  refine ⟨_, H, ?_, q⟩
  unfold mcall
  dsimp only
  rw [if_pos (by rfl)]
theorem decode_w {b : Array UInt8} (hb : b.isEmpty = false) (hs : b.size ≤ 3) (ha : b.toList.all (fun u => u.toNat < 128) = true) (q : Q (.str ⟨b.map UInt8.toNat⟩) H) : OW (mcall K "bytes.decode" [.bytes b, .str { cps := { toList := [97, 115, 99, 105, 105] } }] H) Q := by
  refine ⟨_, H, ?_, q⟩
  unfold mcall
  dsimp only
  rw [if_pos (by rfl)]
  have : ((({ cps := { toList := [97, 115, 99, 105, 105] } } : Str) == ("ascii" : Str)) && !b.isEmpty && b.size ≤ 3 && b.toList.all (fun u => u.toNat < 128)) = true := by
    rw [hb, ha]
    have : (({ cps := { toList := [97, 115, 99, 105, 105] } } : Str) == ("ascii" : Str)) = true := by decide +kernel
    rw [this]; simp [hs]
  rw [if_pos this]
theorem mr_bytes {b : Array UInt8} {id : String} (h : bmOf [] (.bytes #[]) x = some (id, true)) : methRes K H (.bytes b) x = some (.bm id true) := by
  unfold methRes
  have : bmOf H (.bytes b) x = some (id, true) := h
  dsimp only
  rw [this]
theorem int_str {s : Str} {k : Int} (h : digitsOf s.cps.toList = some k) (q : Q (.int k) H) : OW (tcall K "int" [.str s] H) Q := by
  refine ⟨_, H, ?_, q⟩
  unfold tcall
  dsimp only
  rw [if_neg (by decide), if_pos (by rfl), h]
theorem bytes_w {i : Nat} {xs : List V} {l : List UInt8} (ho : H[i]? = some (.list xs)) (hs : xs.length ≤ maxL) (hb : bytesOf xs = some l) (q : Q (.bytes l.toArray) H) : OW (tcall K "bytes" [.ref i] H) Q := by
  have hl : listOf K H (.ref i) = some xs := by unfold listOf; dsimp only; rw [ho]
  refine ⟨_, H, ?_, q⟩
  unfold tcall
  dsimp only
  rw [if_neg (by decide), if_neg (by decide), if_pos (by rfl), hl]
  simp only [if_pos hs, hb]

/-! isinstance, is -/
theorem isinst_bytes {r : Rec} {b : Array UInt8} (q : Q (.bool true) H) : OW (bcall K r "isinstance" [.bytes b, .type "bytes"] H) Q := ⟨_, H, rfl, q⟩
theorem isinst_own {r : Rec} {i : Nat} {C : Addr} {fs : List (Str × V)} (ho : H[i]? = some (.inst C fs)) (q : Q (.bool true) H) : OW (bcall K r "isinstance" [.ref i, .stat C] H) Q := by
  refine ⟨_, H, ?_, q⟩
  unfold bcall
  dsimp only
  rw [if_pos (by rfl)]
  unfold isinst
  dsimp only
  rw [ho]
  simp only [if_true]
def isNone : V → Bool
  | .none => true
  | _ => false
theorem cmp_is {v : V} : cmpV K H .Is v .none = some (isNone v) := by
  show isV K v .none = _
  unfold isV isNone
  cases v <;> rfl
theorem cmp_isnot {v : V} : cmpV K H .IsNot v .none = some (!isNone v) := by
  show (match isV K v .none with | some r => some (!r) | none => none) = _
  have : isV K v .none = some (isNone v) := cmp_is (K := K) (H := H)
  rw [this]
theorem cmp_in_tup {v : V} {us : List V} {b : Bool} (h : anyEq (fun y => eqV K H ED y v) us = some b) : cmpV K H .In v (.tup us) = some b := h
theorem cmp_notin_tup {v : V} {us : List V} {b : Bool} (h : anyEq (fun y => eqV K H ED y v) us = some b) : cmpV K H .NotIn v (.tup us) = some (!b) := by
  show (match inV K H v (.tup us) with | some r => some (!r) | none => none) = _
  have : inV K H v (.tup us) = some b := h
  rw [this]

/-! bisect -/
theorem bisect_w {r : Rec} {a : Addr} {xs : List V} {ns : List Int} {k lo : Int} {m : Nat} (hl : listOf K [] (.stat a) = some xs) (hi : intsOf xs = some ns) (h0 : 0 ≤ lo) (h1 : lo < 10000) (h2 : ns.length < 10000) (hm : bisectGo ns k 64 lo.toNat ns.length = some m) (q : Q (.int m) H) : OW (bcall K r "_bisect.bisect_left" [.stat a, .int k, .int lo] H) Q := by
  have hl : listOf K H (.stat a) = some xs := hl
  refine ⟨_, H, ?_, q⟩
  unfold bcall
  dsimp only
  rw [if_pos (by rfl), hl]
  simp only [hi]
  rw [if_pos ⟨h0, h1, h2⟩, hm]
end
end Mini
namespace Mini
open PySem PySem.W PySem.W.X PySem.Calls PyProof.Rows Builtin
section
variable {K : Frag} {n : Nat} {H : Hp} {sc : Scope} {ρ φ : Loc} {Q : V → Hp → Prop} {v u : V} {x : Str}
theorem clip_pos {n : Nat} {i : Int} (h : 0 ≤ i) : clipAt n i = min i.toNat n := by
  unfold clipAt
  rw [if_neg (by omega)]
  omega
theorem cut_mid {α : Type} {xs : List α} {lo hi : Int} (h0 : 0 ≤ lo) (h1 : lo ≤ hi) : cut xs (some lo) (some hi) = (xs.drop lo.toNat).take (hi - lo).toNat := by
  unfold cut
  simp only [Option.elim, clip_pos h0, clip_pos (Int.le_trans h0 h1)]
  rcases Nat.lt_or_ge lo.toNat xs.length with h | h
  · have e1 : min lo.toNat xs.length = lo.toNat := by omega
    rw [e1]
    have hl : (xs.drop lo.toNat).length = xs.length - lo.toNat := List.length_drop
    rcases Nat.lt_or_ge hi.toNat xs.length with h2 | h2
    · have e2 : min hi.toNat xs.length - lo.toNat = (hi - lo).toNat := by omega
      rw [e2]
    · rw [List.take_of_length_le (by omega), List.take_of_length_le (by omega)]
  · have e1 : min lo.toNat xs.length = xs.length := by omega
    rw [e1, List.drop_eq_nil_of_le (Nat.le_refl _), List.drop_eq_nil_of_le h]
    simp
theorem cut_lo {α : Type} {xs : List α} {lo : Int} (h0 : 0 ≤ lo) : cut xs (some lo) none = xs.drop lo.toNat := by
  unfold cut
  simp only [Option.elim, clip_pos h0]
  rcases Nat.lt_or_ge lo.toNat xs.length with h | h
  · have e1 : min lo.toNat xs.length = lo.toNat := by omega
    rw [e1, List.take_of_length_le (by rw [List.length_drop]; exact Nat.le_refl _)]
  · have e1 : min lo.toNat xs.length = xs.length := by omega
    rw [e1, List.drop_eq_nil_of_le (Nat.le_refl _), List.drop_eq_nil_of_le h]
    simp
theorem cut_hi {α : Type} {xs : List α} {hi : Int} (h0 : 0 ≤ hi) : cut xs none (some hi) = xs.take hi.toNat := by
  unfold cut
  simp only [Option.elim, clip_pos h0]
  rcases Nat.lt_or_ge hi.toNat xs.length with h | h
  · have e1 : min hi.toNat xs.length = hi.toNat := by omega
    rw [e1]; rfl
  · have e1 : min hi.toNat xs.length = xs.length := by omega
    rw [e1, List.take_of_length_le h]
    simp
theorem cut_all {α : Type} {xs : List α} : cut xs none none = xs := by
  unfold cut
  simp

theorem if_w {t : Expr} {as bs : List Stmt} {p : Pos} {X : Fl → Loc → Hp → Prop} (h : TW ((run K n).tr sc ρ [] t H) fun c H' => (c = true → XW ((run K n).ex sc ρ as H') X) ∧ (c = false → XW ((run K n).ex sc ρ bs H') X)) : XW (step1 K (run K n) sc (.If t as bs p) ρ H) X := by
  obtain ⟨c, H', e, h1, h2⟩ := h
  have key : step1 K (run K n) sc (.If t as bs p) ρ H = (match (run K n).tr sc ρ [] t H with
    | some (true, H') => (run K n).ex sc ρ as H'
    | some (false, H') => (run K n).ex sc ρ bs H'
    | none => none) := rfl
  rw [key, e]
  cases c with
  | true => exact h1 rfl
  | false => exact h2 rfl
/-- a first statement that goes on, cut off by what holds behind it -/
theorem cut_w {s : Stmt} {rest : List Stmt} {X : Fl → Loc → Hp → Prop} (P : Loc → Hp → Prop) (h : XW (step1 K (run K n) sc s ρ H) fun f ρ' H' => f = .next ∧ P ρ' H') (g : ∀ ρ' H', P ρ' H' → XW ((run K (n + 1)).ex sc ρ' rest H') X) : XW ((run K (n + 1)).ex sc ρ (s :: rest) H) X := by
  refine ex_cons (h.mono fun f ρ' H' ⟨e, hp⟩ => ?_)
  subst e
  exact g _ _ hp
theorem genV_w {f x y z d : Str} {px py pz pd pc : Pos} {sc' : Scope} {a b : Array UInt8} {t : Tok} (hok : genOk f x y z d sc' = true) (hd : nameV K sc ρ φ d = some (.bytes b)) (hy : nsIn K mainGlobals y = some (some (.bytes a t))) :
    genV K sc ρ φ f (.Compare (.Name x px) [.In] [.Name y py] pc) ⟨.Name z pz, .Name d pd, [], 0⟩ sc' H = some (.bool (b.toList.all fun u => a.contains u), H) := by
  unfold genV
  simp only [hok, if_true, hd, hy]
theorem ev_all {f : Str} {pf pg pc : Pos} {elt : Expr} {g : Comprehension} {sc' : Scope} (hf : nameV K sc ρ φ f = some (.bi "all")) (hg : genV K sc ρ φ f elt g sc' H = some (v, H)) (q : Q v H) : OW ((run K (n + 1)).ev sc ρ φ (.Call (.Name f pf) [.GeneratorExp elt [g] sc' pg] [] pc) H) Q := by
  refine ⟨v, H, ?_, q⟩
  show stepEv K (run K n) sc ρ φ (.Call (.Name f pf) [.GeneratorExp elt [g] sc' pg] [] pc) H = _
  unfold stepEv
  dsimp only
  rw [hf]; exact hg
end
end Mini
namespace Mini
open PySem PySem.W PySem.W.X PySem.Calls PyProof.Rows Builtin
section
variable {K : Frag} {n : Nat} {H : Hp} {sc : Scope} {ρ φ : Loc} {Q : V → Hp → Prop} {v u : V} {x : Str} {e t : Expr} {p : Pos} {rest : List Stmt} {X : Fl → Loc → Hp → Prop}
def notTT : Expr → Expr → Bool
  | .Tuple .., .Tuple .. => false
  | .List .., _ => false
  | _, _ => true
theorem swapped_none (h : notTT t e = true) : swapped sc t e = some none := by
  unfold swapped
  split
  · cases h
  · cases h
  · rfl
theorem st_assign' (hc : isComp e = false) (hw : notTT t e = true) (h : OW ((run K n).ev sc ρ [] e H) fun v H' => AW (asg K (run K n) sc [] t v ρ H') fun ρ' H2 => XW ((run K (n + 1)).ex sc ρ' rest H2) X) : XW ((run K (n + 1)).ex sc ρ (.Assign [t] e p :: rest) H) X := st_assign hc (swapped_none hw) h
theorem item_slice_stat {r : Rec} {a : Addr} {xs : List V} {lo hi : Option Int} (hl : listOf K [] (.stat a) = some xs) (hs : xs.length ≤ maxL) (h : OW (newL (cut xs lo hi) H) Q) : OW (getItem K r (.stat a) (.slc lo hi) H) Q := by
  have hl : listOf K H (.stat a) = some xs := hl
  obtain ⟨v, H', e, q⟩ := h
  refine ⟨v, H', ?_, q⟩
  unfold getItem
  dsimp only
  unfold getItemL
  simp only [hl, if_pos hs]
  exact e
theorem bin_lists {i j : Nat} {xs ys : List V} (h1 : H[i]? = some (.list xs)) (h2 : H[j]? = some (.list ys)) (h : OW (newL (xs ++ ys) H) Q) : OW (binop K (run K n) .Add (.ref i) (.ref j) H) Q := by
  have e1 : listOf K H (.ref i) = some xs := by unfold listOf; dsimp only; rw [h1]
  have e2 : listOf K H (.ref j) = some ys := by unfold listOf; dsimp only; rw [h2]
  obtain ⟨v, H', e, q⟩ := h
  refine ⟨v, H', ?_, q⟩
  unfold binop
  simp only [e1, e2]
  exact e
def cellOk (sc : Scope) (x : Str) : Bool := match sc.names.lookup x with | some .cell => true | _ => false
theorem nameL_cell (h : cellOk sc x = true) (hv : ρ.lookup x = some v) : nameL sc ρ φ x = some v := by
  unfold cellOk at h
  unfold nameL
  split at h
  · rename_i e; rw [e]; exact hv
  · cases h
theorem freeOf_lk {names : List (Str × NameKind)} (h : names.any (fun p => p.1 == x && p.2 == .free) = true) (hv : nameL sc ρ φ x = some v) : (freeOf sc ρ φ names).lookup x = some v := by
  induction names with
  | nil => cases h
  | cons q r ih =>
    obtain ⟨y, k⟩ := q
    rw [List.any_cons, Bool.or_eq_true] at h
    unfold freeOf
    by_cases hk : (k == NameKind.free) = true
    · rw [if_pos hk]
      by_cases hy : (y == x) = true
      · have := eq_of_beq hy; subst this
        rw [hv]; exact lk_cons_self
      · have hy : (y == x) = false := by simpa using hy
        have ih' := ih (h.resolve_left (by rw [hy]; simp))
        split
        · exact lk_cons_ne hy ih'
        · exact ih'
    · rw [if_neg hk]
      refine ih (h.resolve_left ?_)
      have hk : (k == NameKind.free) = false := by simpa using hk
      dsimp only
      rw [hk]; simp
def compStat (sc' : Scope) (fr : List Str) : Bool := sc'.kind == .function && sc'.names.all (fun p => !(p.2 == .cell) && (!(p.2 == .free) || fr.contains p.1) && (!(p.2 == .local) || sc'.names.lookup p.1 == some .local))
theorem compOk_of {sc' : Scope} {fr : List Str} (h : compStat sc' fr = true) (hf : ∀ x ∈ fr, (nameL sc ρ φ x).isSome = true) : compOk sc ρ φ sc' = true := by
  unfold compStat at h
  unfold compOk
  rw [Bool.and_eq_true] at h ⊢
  refine ⟨h.1, ?_⟩
  rw [List.all_eq_true] at *
  intro q hq
  have := h.2 q hq
  simp only [Bool.and_eq_true, Bool.or_eq_true] at this ⊢
  refine ⟨⟨this.1.1, ?_⟩, this.2⟩
  rcases this.1.2 with h1 | h1
  · exact .inl h1
  · exact .inr (hf _ (List.contains_iff_mem.mp h1))
theorem eqV_int {k : Nat} {a b : Int} : eqV K H (k + 1) (.int a) (.int b) = some (a == b) := rfl
theorem eqV_bytes {k : Nat} {a b : Array UInt8} : eqV K H (k + 1) (.bytes a) (.bytes b) = some (a == b) := rfl
theorem eqV_tup {k : Nat} {a b : List V} : eqV K H (k + 1) (.tup a) (.tup b) = allEq (eqV K H k) a b := rfl
theorem eqV_lists {k : Nat} {i j : Nat} {xs ys : List V} (h1 : H[i]? = some (.list xs)) (h2 : H[j]? = some (.list ys)) : eqV K H (k + 1) (.ref i) (.ref j) = seqEq (eqV K H k) xs ys := by
  have e1 : listOf K H (.ref i) = some xs := by unfold listOf; dsimp only; rw [h1]
  have e2 : listOf K H (.ref j) = some ys := by unfold listOf; dsimp only; rw [h2]
  show (match listOf K H (.ref i), listOf K H (.ref j) with | some xs, some ys => seqEq (eqV K H k) xs ys | _, _ => none) = _
  rw [e1, e2]
theorem allEq_same {f : V → V → Option Bool} : ∀ {xs : List V}, (∀ x ∈ xs, f x x = some true) → allEq f xs xs = some true
  | [], _ => rfl
  | x :: r, h => by
    unfold allEq
    rw [h x (List.mem_cons_self ..)]
    dsimp only
    rw [allEq_same fun y hy => h y (List.mem_cons_of_mem _ hy)]
    rfl
theorem seqEq_same {f : V → V → Option Bool} {xs : List V} (h : ∀ x ∈ xs, f x x = some true) : seqEq f xs xs = some true := by
  unfold seqEq; rw [if_pos rfl]; exact allEq_same h
end
end Mini
section
open PySem PySem.W PySem.W.X PyProof.Rows
namespace Mini
local macro_rules | `(tactic| k_head) => `(tactic| z_head)
open_top hd for PySem.Challenge.rw_bm0038_06
theorem fragOk06 (p : Params) : (fragOk (hd.heap_388 p) && ((plainF (hd.heap_388 p)).lookup 415).isSome && ((plainF (hd.heap_388 p)).lookup 416).isNone) = true := by
  kernel_rfl
theorem head06 (law : ∀ p, LawAt (hd.heap_388 p) 415 416) : PySem.Challenge.rw_bm0038_06.Holds := by
  apply hd
  k_fill
  intro w s₀ s₁ mg mb G y fa o pm cd doc dV kV ho hd hcd hD hmg hg args vals as L hpre hlay hrd hwl hlo
  z_open y L KX ZH ZN ZT
  refine Ground.open G ?_
  intro T B D TE TW
  wrow_args hpre hlay hrd hwl hlo
  obtain ⟨hat, hsz⟩ := script_at L
  have htk := script_toks L ZT
  rw [ZN] at hat hsz
  subst hat
  x_fa T KX hmg
  (rename IntsAre _ _ => hI)
  (rename ¬ ((63 : Int) < _) => hlen)
  (rename Heap.IsList _ _ _ => hLl)
  obtain ⟨bm, ob, M⟩ := bmod_of_top T
  have hLo := script_obj L hLl
  refine join_law (law w.params) (Int.ofNat_le.mp (Int.not_lt.mp hlen)) hI (fragOk06 w.params) KX hLo T.nolimit T.g T.b T.builtins M hg (fun _ => rfl) ?post
  case post => wrow_post
end Mini
end
section
open PySem PySem.W PySem.W.X PyProof.Rows
open PySem PySem.W PySem.W.X PyProof.Rows
namespace Mini
noncomputable section
def K06 (p : Params) (vs : List Value) : Frag := KF (hd.heap_388 p) 416 vs
variable {p : Params} {vs : List Value}
abbrev n_ALPHA_NUM : Str := { cps := { toList := [65, 76, 80, 72, 65, 95, 78, 85, 77] } }
abbrev n_BIT_LIMIT_TABLE : Str := { cps := { toList := [66, 73, 84, 95, 76, 73, 77, 73, 84, 95, 84, 65, 66, 76, 69] } }
abbrev n_BitBuffer : Str := { cps := { toList := [66, 105, 116, 66, 117, 102, 102, 101, 114] } }
abbrev n_DataOverflowError : Str := { cps := { toList := [68, 97, 116, 97, 79, 118, 101, 114, 102, 108, 111, 119, 69, 114, 114, 111, 114] } }
abbrev n_ERROR_CORRECT_M : Str := { cps := { toList := [69, 82, 82, 79, 82, 95, 67, 79, 82, 82, 69, 67, 84, 95, 77] } }
abbrev n_Exception : Str := { cps := { toList := [69, 120, 99, 101, 112, 116, 105, 111, 110] } }
abbrev n_MODE_8BIT_BYTE : Str := { cps := { toList := [77, 79, 68, 69, 95, 56, 66, 73, 84, 95, 66, 89, 84, 69] } }
abbrev n_MODE_ALPHA_NUM : Str := { cps := { toList := [77, 79, 68, 69, 95, 65, 76, 80, 72, 65, 95, 78, 85, 77] } }
abbrev n_MODE_KANJI : Str := { cps := { toList := [77, 79, 68, 69, 95, 75, 65, 78, 74, 73] } }
abbrev n_MODE_NUMBER : Str := { cps := { toList := [77, 79, 68, 69, 95, 78, 85, 77, 66, 69, 82] } }
abbrev n_MODE_SIZE_LARGE : Str := { cps := { toList := [77, 79, 68, 69, 95, 83, 73, 90, 69, 95, 76, 65, 82, 71, 69] } }
abbrev n_MODE_SIZE_MEDIUM : Str := { cps := { toList := [77, 79, 68, 69, 95, 83, 73, 90, 69, 95, 77, 69, 68, 73, 85, 77] } }
abbrev n_MODE_SIZE_SMALL : Str := { cps := { toList := [77, 79, 68, 69, 95, 83, 73, 90, 69, 95, 83, 77, 65, 76, 76] } }
abbrev n_NUMBER_LENGTH : Str := { cps := { toList := [78, 85, 77, 66, 69, 82, 95, 76, 69, 78, 71, 84, 72] } }
abbrev n_QRCode : Str := { cps := { toList := [81, 82, 67, 111, 100, 101] } }
abbrev n_QRData : Str := { cps := { toList := [81, 82, 68, 97, 116, 97] } }
abbrev n_TypeError : Str := { cps := { toList := [84, 121, 112, 101, 69, 114, 114, 111, 114] } }
abbrev n_ValueError : Str := { cps := { toList := [86, 97, 108, 117, 101, 69, 114, 114, 111, 114] } }
abbrev nu__name__ : Str := { cps := { toList := [95, 95, 110, 97, 109, 101, 95, 95] } }
abbrev nu_check_border : Str := { cps := { toList := [95, 99, 104, 101, 99, 107, 95, 98, 111, 114, 100, 101, 114] } }
abbrev nu_check_box_size : Str := { cps := { toList := [95, 99, 104, 101, 99, 107, 95, 98, 111, 120, 95, 115, 105, 122, 101] } }
abbrev nu_check_mask_pattern : Str := { cps := { toList := [95, 99, 104, 101, 99, 107, 95, 109, 97, 115, 107, 95, 112, 97, 116, 116, 101, 114, 110] } }
abbrev nu_law_bits : Str := { cps := { toList := [95, 108, 97, 119, 95, 98, 105, 116, 115] } }
abbrev nu_law_rooms : Str := { cps := { toList := [95, 108, 97, 119, 95, 114, 111, 111, 109, 115] } }
abbrev nu_mask_pattern : Str := { cps := { toList := [95, 109, 97, 115, 107, 95, 112, 97, 116, 116, 101, 114, 110] } }
abbrev nu_optimal_split : Str := { cps := { toList := [95, 111, 112, 116, 105, 109, 97, 108, 95, 115, 112, 108, 105, 116] } }
abbrev nu_version : Str := { cps := { toList := [95, 118, 101, 114, 115, 105, 111, 110] } }
abbrev nu_wall : Str := { cps := { toList := [95, 119, 97, 108, 108] } }
abbrev n_add_data : Str := { cps := { toList := [97, 100, 100, 95, 100, 97, 116, 97] } }
abbrev n_all : Str := { cps := { toList := [97, 108, 108] } }
abbrev n_alpha_pattern : Str := { cps := { toList := [97, 108, 112, 104, 97, 95, 112, 97, 116, 116, 101, 114, 110] } }
abbrev n_append : Str := { cps := { toList := [97, 112, 112, 101, 110, 100] } }
abbrev n_best_fit : Str := { cps := { toList := [98, 101, 115, 116, 95, 102, 105, 116] } }
abbrev n_bisect_left : Str := { cps := { toList := [98, 105, 115, 101, 99, 116, 95, 108, 101, 102, 116] } }
abbrev n_bit : Str := { cps := { toList := [98, 105, 116] } }
abbrev n_bit_length : Str := { cps := { toList := [98, 105, 116, 95, 108, 101, 110, 103, 116, 104] } }
abbrev n_bits : Str := { cps := { toList := [98, 105, 116, 115] } }
abbrev n_border : Str := { cps := { toList := [98, 111, 114, 100, 101, 114] } }
abbrev n_box_size : Str := { cps := { toList := [98, 111, 120, 95, 115, 105, 122, 101] } }
abbrev n_buf_index : Str := { cps := { toList := [98, 117, 102, 95, 105, 110, 100, 101, 120] } }
abbrev n_buffer : Str := { cps := { toList := [98, 117, 102, 102, 101, 114] } }
abbrev n_bytes : Str := { cps := { toList := [98, 121, 116, 101, 115] } }
abbrev n_c : Str := { cps := { toList := [99] } }
abbrev n_chars : Str := { cps := { toList := [99, 104, 97, 114, 115] } }
abbrev n_check_data : Str := { cps := { toList := [99, 104, 101, 99, 107, 95, 100, 97, 116, 97] } }
abbrev n_check_version : Str := { cps := { toList := [99, 104, 101, 99, 107, 95, 118, 101, 114, 115, 105, 111, 110] } }
abbrev n_chunk : Str := { cps := { toList := [99, 104, 117, 110, 107] } }
abbrev n_clear : Str := { cps := { toList := [99, 108, 101, 97, 114] } }
abbrev n_code : Str := { cps := { toList := [99, 111, 100, 101] } }
abbrev n_col : Str := { cps := { toList := [99, 111, 108] } }
abbrev n_count : Str := { cps := { toList := [99, 111, 117, 110, 116] } }
abbrev n_cut : Str := { cps := { toList := [99, 117, 116] } }
abbrev n_data : Str := { cps := { toList := [100, 97, 116, 97] } }
abbrev n_data_cache : Str := { cps := { toList := [100, 97, 116, 97, 95, 99, 97, 99, 104, 101] } }
abbrev n_data_list : Str := { cps := { toList := [100, 97, 116, 97, 95, 108, 105, 115, 116] } }
abbrev n_decode : Str := { cps := { toList := [100, 101, 99, 111, 100, 101] } }
abbrev n_due : Str := { cps := { toList := [100, 117, 101] } }
abbrev n_encode : Str := { cps := { toList := [101, 110, 99, 111, 100, 101] } }
abbrev n_end : Str := { cps := { toList := [101, 110, 100] } }
abbrev n_error_correction : Str := { cps := { toList := [101, 114, 114, 111, 114, 95, 99, 111, 114, 114, 101, 99, 116, 105, 111, 110] } }
abbrev n_extend : Str := { cps := { toList := [101, 120, 116, 101, 110, 100] } }
abbrev n_find : Str := { cps := { toList := [102, 105, 110, 100] } }
abbrev n_first : Str := { cps := { toList := [102, 105, 114, 115, 116] } }
abbrev n_fit : Str := { cps := { toList := [102, 105, 116] } }
abbrev n_i : Str := { cps := { toList := [105] } }
abbrev n_image_factory : Str := { cps := { toList := [105, 109, 97, 103, 101, 95, 102, 97, 99, 116, 111, 114, 121] } }
abbrev n_index : Str := { cps := { toList := [105, 110, 100, 101, 120] } }
abbrev n_int : Str := { cps := { toList := [105, 110, 116] } }
abbrev n_is_alpha : Str := { cps := { toList := [105, 115, 95, 97, 108, 112, 104, 97] } }
abbrev n_is_num : Str := { cps := { toList := [105, 115, 95, 110, 117, 109] } }
abbrev n_isdigit : Str := { cps := { toList := [105, 115, 100, 105, 103, 105, 116] } }
abbrev n_isinstance : Str := { cps := { toList := [105, 115, 105, 110, 115, 116, 97, 110, 99, 101] } }
abbrev n_join : Str := { cps := { toList := [106, 111, 105, 110] } }
abbrev n_k : Str := { cps := { toList := [107] } }
abbrev n_kind : Str := { cps := { toList := [107, 105, 110, 100] } }
abbrev n_least : Str := { cps := { toList := [108, 101, 97, 115, 116] } }
abbrev n_len : Str := { cps := { toList := [108, 101, 110] } }
abbrev n_length : Str := { cps := { toList := [108, 101, 110, 103, 116, 104] } }
abbrev n_mask_pattern : Str := { cps := { toList := [109, 97, 115, 107, 95, 112, 97, 116, 116, 101, 114, 110] } }
abbrev n_match : Str := { cps := { toList := [109, 97, 116, 99, 104] } }
abbrev n_minimum : Str := { cps := { toList := [109, 105, 110, 105, 109, 117, 109] } }
abbrev n_mode : Str := { cps := { toList := [109, 111, 100, 101] } }
abbrev n_mode_sizes : Str := { cps := { toList := [109, 111, 100, 101, 95, 115, 105, 122, 101, 115] } }
abbrev n_mode_sizes_for_version : Str := { cps := { toList := [109, 111, 100, 101, 95, 115, 105, 122, 101, 115, 95, 102, 111, 114, 95, 118, 101, 114, 115, 105, 111, 110] } }
abbrev n_modules : Str := { cps := { toList := [109, 111, 100, 117, 108, 101, 115] } }
abbrev n_modules_count : Str := { cps := { toList := [109, 111, 100, 117, 108, 101, 115, 95, 99, 111, 117, 110, 116] } }
abbrev n_n : Str := { cps := { toList := [110] } }
abbrev n_needed_bits : Str := { cps := { toList := [110, 101, 101, 100, 101, 100, 95, 98, 105, 116, 115] } }
abbrev n_num : Str := { cps := { toList := [110, 117, 109] } }
abbrev n_num_bits : Str := { cps := { toList := [110, 117, 109, 95, 98, 105, 116, 115] } }
abbrev n_num_pattern : Str := { cps := { toList := [110, 117, 109, 95, 112, 97, 116, 116, 101, 114, 110] } }
abbrev n_octets : Str := { cps := { toList := [111, 99, 116, 101, 116, 115] } }
abbrev n_optimal_data_chunks : Str := { cps := { toList := [111, 112, 116, 105, 109, 97, 108, 95, 100, 97, 116, 97, 95, 99, 104, 117, 110, 107, 115] } }
abbrev n_optimal_mode : Str := { cps := { toList := [111, 112, 116, 105, 109, 97, 108, 95, 109, 111, 100, 101] } }
abbrev n_optimize : Str := { cps := { toList := [111, 112, 116, 105, 109, 105, 122, 101] } }
abbrev n_part : Str := { cps := { toList := [112, 97, 114, 116] } }
abbrev n_parts : Str := { cps := { toList := [112, 97, 114, 116, 115] } }
abbrev n_pattern : Str := { cps := { toList := [112, 97, 116, 116, 101, 114, 110] } }
abbrev n_place : Str := { cps := { toList := [112, 108, 97, 99, 101] } }
abbrev n_precomputed_qr_blanks : Str := { cps := { toList := [112, 114, 101, 99, 111, 109, 112, 117, 116, 101, 100, 95, 113, 114, 95, 98, 108, 97, 110, 107, 115] } }
abbrev n_property : Str := { cps := { toList := [112, 114, 111, 112, 101, 114, 116, 121] } }
abbrev n_put : Str := { cps := { toList := [112, 117, 116] } }
abbrev n_put_bit : Str := { cps := { toList := [112, 117, 116, 95, 98, 105, 116] } }
abbrev n_range : Str := { cps := { toList := [114, 97, 110, 103, 101] } }
abbrev n_repr : Str := { cps := { toList := [114, 101, 112, 114] } }
abbrev n_room : Str := { cps := { toList := [114, 111, 111, 109] } }
abbrev n_row : Str := { cps := { toList := [114, 111, 119] } }
abbrev n_run_of : Str := { cps := { toList := [114, 117, 110, 95, 111, 102] } }
abbrev n_script : Str := { cps := { toList := [115, 99, 114, 105, 112, 116] } }
abbrev n_second : Str := { cps := { toList := [115, 101, 99, 111, 110, 100] } }
abbrev n_self : Str := { cps := { toList := [115, 101, 108, 102] } }
abbrev n_setter : Str := { cps := { toList := [115, 101, 116, 116, 101, 114] } }
abbrev n_sign : Str := { cps := { toList := [115, 105, 103, 110] } }
abbrev n_signs : Str := { cps := { toList := [115, 105, 103, 110, 115] } }
abbrev n_size : Str := { cps := { toList := [115, 105, 122, 101] } }
abbrev n_start : Str := { cps := { toList := [115, 116, 97, 114, 116] } }
abbrev n_str : Str := { cps := { toList := [115, 116, 114] } }
abbrev n_sub_chunk : Str := { cps := { toList := [115, 117, 98, 95, 99, 104, 117, 110, 107] } }
abbrev n_tail : Str := { cps := { toList := [116, 97, 105, 108] } }
abbrev n_test : Str := { cps := { toList := [116, 101, 115, 116] } }
abbrev n_to_bytestring : Str := { cps := { toList := [116, 111, 95, 98, 121, 116, 101, 115, 116, 114, 105, 110, 103] } }
abbrev n_told : Str := { cps := { toList := [116, 111, 108, 100] } }
abbrev n_type : Str := { cps := { toList := [116, 121, 112, 101] } }
abbrev n_value : Str := { cps := { toList := [118, 97, 108, 117, 101] } }
abbrev n_version : Str := { cps := { toList := [118, 101, 114, 115, 105, 111, 110] } }
abbrev n_write : Str := { cps := { toList := [119, 114, 105, 116, 101] } }
theorem lk_211 : (K06 p vs).lookup 211 = some (hd.zo_199 p) := by kernel_rfl
theorem fi_211 : fnInfo (K06 p vs) 211 = some (scOf (hd.zo_199 p), bdOf (hd.zo_199 p), psOf (hd.zo_199 p), dfOf (hd.zo_199 p)) := info_at lk_211 (by kernel_rfl) (by kernel_rfl)
theorem kp_211 : keepIn (K06 p vs) (.ref 211) = true := by kernel_rfl
theorem en_211_2 {a0 a1 : V} : binds (K06 p vs) (psOf (hd.zo_199 p)) (dfOf (hd.zo_199 p)) [a0, a1] [] = some [(n_self, a0), (n_bit, a1)] := by kernel_rfl
theorem lk_197 : (K06 p vs).lookup 197 = some (hd.zo_185 p) := by kernel_rfl
theorem fi_197 : fnInfo (K06 p vs) 197 = some (scOf (hd.zo_185 p), bdOf (hd.zo_185 p), psOf (hd.zo_185 p), dfOf (hd.zo_185 p)) := info_at lk_197 (by kernel_rfl) (by kernel_rfl)
theorem kp_197 : keepIn (K06 p vs) (.ref 197) = true := by kernel_rfl
theorem en_197_3 {a0 a1 a2 : V} : binds (K06 p vs) (psOf (hd.zo_185 p)) (dfOf (hd.zo_185 p)) [a0, a1, a2] [] = some [(n_self, a0), (n_num, a1), (n_length, a2)] := by kernel_rfl
theorem lk_204 : (K06 p vs).lookup 204 = some (hd.zo_192 p) := by kernel_rfl
theorem fi_204 : fnInfo (K06 p vs) 204 = some (scOf (hd.zo_192 p), bdOf (hd.zo_192 p), psOf (hd.zo_192 p), dfOf (hd.zo_192 p)) := info_at lk_204 (by kernel_rfl) (by kernel_rfl)
theorem kp_204 : keepIn (K06 p vs) (.ref 204) = true := by kernel_rfl
theorem en_204_1 {a0 : V} : binds (K06 p vs) (psOf (hd.zo_192 p)) (dfOf (hd.zo_192 p)) [a0] [] = some [(n_self, a0)] := by kernel_rfl
theorem lk_178 : (K06 p vs).lookup 178 = some (hd.zo_166 p) := by kernel_rfl
theorem fi_178 : fnInfo (K06 p vs) 178 = some (scOf (hd.zo_166 p), bdOf (hd.zo_166 p), psOf (hd.zo_166 p), dfOf (hd.zo_166 p)) := info_at lk_178 (by kernel_rfl) (by kernel_rfl)
theorem kp_178 : keepIn (K06 p vs) (.ref 178) = true := by kernel_rfl
theorem en_178_1 {a0 : V} : binds (K06 p vs) (psOf (hd.zo_166 p)) (dfOf (hd.zo_166 p)) [a0] [] = some [(n_self, a0)] := by kernel_rfl
theorem lk_85 : (K06 p vs).lookup 85 = some (hd.zo_89 p) := by kernel_rfl
theorem fi_85 : fnInfo (K06 p vs) 85 = some (scOf (hd.zo_89 p), bdOf (hd.zo_89 p), psOf (hd.zo_89 p), dfOf (hd.zo_89 p)) := info_at lk_85 (by kernel_rfl) (by kernel_rfl)
theorem kp_85 : keepIn (K06 p vs) (.ref 85) = true := by kernel_rfl
theorem en_85_1 {a0 : V} : binds (K06 p vs) (psOf (hd.zo_89 p)) (dfOf (hd.zo_89 p)) [a0] [] = some [(n_version, a0)] := by kernel_rfl
theorem lk_92 : (K06 p vs).lookup 92 = some (hd.zo_96 p) := by kernel_rfl
theorem fi_92 : fnInfo (K06 p vs) 92 = some (scOf (hd.zo_96 p), bdOf (hd.zo_96 p), psOf (hd.zo_96 p), dfOf (hd.zo_96 p)) := info_at lk_92 (by kernel_rfl) (by kernel_rfl)
theorem kp_92 : keepIn (K06 p vs) (.ref 92) = true := by kernel_rfl
theorem en_92_1 {a0 : V} : binds (K06 p vs) (psOf (hd.zo_96 p)) (dfOf (hd.zo_96 p)) [a0] [] = some [(n_version, a0)] := by kernel_rfl
theorem lk_333 : (K06 p vs).lookup 333 = some (hd.zo_308 p) := by kernel_rfl
theorem fi_333 : fnInfo (K06 p vs) 333 = some (scOf (hd.zo_308 p), bdOf (hd.zo_308 p), psOf (hd.zo_308 p), dfOf (hd.zo_308 p)) := info_at lk_333 (by kernel_rfl) (by kernel_rfl)
theorem kp_333 : keepIn (K06 p vs) (.ref 333) = true := by kernel_rfl
theorem en_333_2 {a0 a1 : V} : binds (K06 p vs) (psOf (hd.zo_308 p)) (dfOf (hd.zo_308 p)) [a0, a1] [] = some [(n_self, a0), (n_start, a1)] := by kernel_rfl
theorem en_333_1_1 {a0 k0 : V} : binds (K06 p vs) (psOf (hd.zo_308 p)) (dfOf (hd.zo_308 p)) [a0] [(n_start, k0)] = some [(n_self, a0), (n_start, k0)] := by kernel_rfl
theorem lk_150 : (K06 p vs).lookup 150 = some (hd.zo_147 p) := by kernel_rfl
theorem fi_150 : fnInfo (K06 p vs) 150 = some (scOf (hd.zo_147 p), bdOf (hd.zo_147 p), psOf (hd.zo_147 p), dfOf (hd.zo_147 p)) := info_at lk_150 (by kernel_rfl) (by kernel_rfl)
theorem kp_150 : keepIn (K06 p vs) (.ref 150) = true := by kernel_rfl
theorem en_150_2 {a0 a1 : V} : binds (K06 p vs) (psOf (hd.zo_147 p)) (dfOf (hd.zo_147 p)) [a0, a1] [] = some [(n_self, a0), (n_buffer, a1)] := by kernel_rfl
theorem lk_143 : (K06 p vs).lookup 143 = some (hd.zo_140 p) := by kernel_rfl
theorem fi_143 : fnInfo (K06 p vs) 143 = some (scOf (hd.zo_140 p), bdOf (hd.zo_140 p), psOf (hd.zo_140 p), dfOf (hd.zo_140 p)) := info_at lk_143 (by kernel_rfl) (by kernel_rfl)
theorem kp_143 : keepIn (K06 p vs) (.ref 143) = true := by kernel_rfl
theorem en_143_1 {a0 : V} : binds (K06 p vs) (psOf (hd.zo_140 p)) (dfOf (hd.zo_140 p)) [a0] [] = some [(n_self, a0)] := by kernel_rfl
theorem lk_136 : (K06 p vs).lookup 136 = some (hd.zo_133 p) := by kernel_rfl
theorem fi_136 : fnInfo (K06 p vs) 136 = some (scOf (hd.zo_133 p), bdOf (hd.zo_133 p), psOf (hd.zo_133 p), dfOf (hd.zo_133 p)) := info_at lk_136 (by kernel_rfl) (by kernel_rfl)
theorem kp_136 : keepIn (K06 p vs) (.ref 136) = true := by kernel_rfl
theorem en_136_3 {a0 a1 a2 : V} : binds (K06 p vs) (psOf (hd.zo_133 p)) (dfOf (hd.zo_133 p)) [a0, a1, a2] [] = some [(n_self, a0), (n_data, a1), (n_mode, a2), (n_check_data, .bool true)] := by kernel_rfl
theorem en_136_2_1 {a0 a1 k0 : V} : binds (K06 p vs) (psOf (hd.zo_133 p)) (dfOf (hd.zo_133 p)) [a0, a1] [(n_mode, k0)] = some [(n_self, a0), (n_data, a1), (n_mode, k0), (n_check_data, .bool true)] := by kernel_rfl
theorem lk_114 : (K06 p vs).lookup 114 = some (hd.zo_118 p) := by kernel_rfl
theorem fi_114 : fnInfo (K06 p vs) 114 = some (scOf (hd.zo_118 p), bdOf (hd.zo_118 p), psOf (hd.zo_118 p), dfOf (hd.zo_118 p)) := info_at lk_114 (by kernel_rfl) (by kernel_rfl)
theorem kp_114 : keepIn (K06 p vs) (.ref 114) = true := by kernel_rfl
theorem en_114_1 {a0 : V} : binds (K06 p vs) (psOf (hd.zo_118 p)) (dfOf (hd.zo_118 p)) [a0] [] = some [(n_data, a0)] := by kernel_rfl
theorem lk_121 : (K06 p vs).lookup 121 = some (hd.zo_125 p) := by kernel_rfl
theorem fi_121 : fnInfo (K06 p vs) 121 = some (scOf (hd.zo_125 p), bdOf (hd.zo_125 p), psOf (hd.zo_125 p), dfOf (hd.zo_125 p)) := info_at lk_121 (by kernel_rfl) (by kernel_rfl)
theorem kp_121 : keepIn (K06 p vs) (.ref 121) = true := by kernel_rfl
theorem en_121_1 {a0 : V} : binds (K06 p vs) (psOf (hd.zo_125 p)) (dfOf (hd.zo_125 p)) [a0] [] = some [(n_data, a0)] := by kernel_rfl
theorem lk_225 : (K06 p vs).lookup 225 = some (hd.zo_211 p) := by kernel_rfl
theorem fi_225 : fnInfo (K06 p vs) 225 = some (scOf (hd.zo_211 p), bdOf (hd.zo_211 p), psOf (hd.zo_211 p), dfOf (hd.zo_211 p)) := info_at lk_225 (by kernel_rfl) (by kernel_rfl)
theorem kp_225 : keepIn (K06 p vs) (.ref 225) = true := by kernel_rfl
theorem en_225_1 {a0 : V} : binds (K06 p vs) (psOf (hd.zo_211 p)) (dfOf (hd.zo_211 p)) [a0] [] = some [(n_size, a0)] := by kernel_rfl
theorem lk_232 : (K06 p vs).lookup 232 = some (hd.zo_218 p) := by kernel_rfl
theorem fi_232 : fnInfo (K06 p vs) 232 = some (scOf (hd.zo_218 p), bdOf (hd.zo_218 p), psOf (hd.zo_218 p), dfOf (hd.zo_218 p)) := info_at lk_232 (by kernel_rfl) (by kernel_rfl)
theorem kp_232 : keepIn (K06 p vs) (.ref 232) = true := by kernel_rfl
theorem en_232_1 {a0 : V} : binds (K06 p vs) (psOf (hd.zo_218 p)) (dfOf (hd.zo_218 p)) [a0] [] = some [(n_size, a0)] := by kernel_rfl
theorem lk_239 : (K06 p vs).lookup 239 = some (hd.zo_225 p) := by kernel_rfl
theorem fi_239 : fnInfo (K06 p vs) 239 = some (scOf (hd.zo_225 p), bdOf (hd.zo_225 p), psOf (hd.zo_225 p), dfOf (hd.zo_225 p)) := info_at lk_239 (by kernel_rfl) (by kernel_rfl)
theorem kp_239 : keepIn (K06 p vs) (.ref 239) = true := by kernel_rfl
theorem en_239_1 {a0 : V} : binds (K06 p vs) (psOf (hd.zo_225 p)) (dfOf (hd.zo_225 p)) [a0] [] = some [(n_mask_pattern, a0)] := by kernel_rfl
theorem lk_254 : (K06 p vs).lookup 254 = some (hd.zo_233 p) := by kernel_rfl
theorem fi_254 : fnInfo (K06 p vs) 254 = some (scOf (hd.zo_233 p), bdOf (hd.zo_233 p), psOf (hd.zo_233 p), dfOf (hd.zo_233 p)) := info_at lk_254 (by kernel_rfl) (by kernel_rfl)
theorem kp_254 : keepIn (K06 p vs) (.ref 254) = true := by kernel_rfl
theorem en_254_1_1 {a0 k0 : V} : binds (K06 p vs) (psOf (hd.zo_233 p)) (dfOf (hd.zo_233 p)) [a0] [(n_error_correction, k0)] = some [(n_self, a0), (n_version, .none), (n_error_correction, k0), (n_box_size, .int 10), (n_border, .int 4), (n_image_factory, .none), (n_mask_pattern, .none)] := by kernel_rfl
theorem lk_261 : (K06 p vs).lookup 261 = some (hd.zo_240 p) := by kernel_rfl
theorem fi_261 : fnInfo (K06 p vs) 261 = some (scOf (hd.zo_240 p), bdOf (hd.zo_240 p), psOf (hd.zo_240 p), dfOf (hd.zo_240 p)) := info_at lk_261 (by kernel_rfl) (by kernel_rfl)
theorem kp_261 : keepIn (K06 p vs) (.ref 261) = true := by kernel_rfl
theorem en_261_1 {a0 : V} : binds (K06 p vs) (psOf (hd.zo_240 p)) (dfOf (hd.zo_240 p)) [a0] [] = some [(n_self, a0)] := by kernel_rfl
theorem lk_270 : (K06 p vs).lookup 270 = some (hd.zo_247 p) := by kernel_rfl
theorem fi_270 : fnInfo (K06 p vs) 270 = some (scOf (hd.zo_247 p), bdOf (hd.zo_247 p), psOf (hd.zo_247 p), dfOf (hd.zo_247 p)) := info_at lk_270 (by kernel_rfl) (by kernel_rfl)
theorem kp_270 : keepIn (K06 p vs) (.ref 270) = true := by kernel_rfl
theorem en_270_2 {a0 a1 : V} : binds (K06 p vs) (psOf (hd.zo_247 p)) (dfOf (hd.zo_247 p)) [a0, a1] [] = some [(n_self, a0), (n_value, a1)] := by kernel_rfl
theorem lk_287 : (K06 p vs).lookup 287 = some (hd.zo_262 p) := by kernel_rfl
theorem fi_287 : fnInfo (K06 p vs) 287 = some (scOf (hd.zo_262 p), bdOf (hd.zo_262 p), psOf (hd.zo_262 p), dfOf (hd.zo_262 p)) := info_at lk_287 (by kernel_rfl) (by kernel_rfl)
theorem kp_287 : keepIn (K06 p vs) (.ref 287) = true := by kernel_rfl
theorem en_287_2 {a0 a1 : V} : binds (K06 p vs) (psOf (hd.zo_262 p)) (dfOf (hd.zo_262 p)) [a0, a1] [] = some [(n_self, a0), (n_pattern, a1)] := by kernel_rfl
theorem lk_295 : (K06 p vs).lookup 295 = some (hd.zo_270 p) := by kernel_rfl
theorem fi_295 : fnInfo (K06 p vs) 295 = some (scOf (hd.zo_270 p), bdOf (hd.zo_270 p), psOf (hd.zo_270 p), dfOf (hd.zo_270 p)) := info_at lk_295 (by kernel_rfl) (by kernel_rfl)
theorem kp_295 : keepIn (K06 p vs) (.ref 295) = true := by kernel_rfl
theorem en_295_1 {a0 : V} : binds (K06 p vs) (psOf (hd.zo_270 p)) (dfOf (hd.zo_270 p)) [a0] [] = some [(n_self, a0)] := by kernel_rfl
theorem lk_303 : (K06 p vs).lookup 303 = some (hd.zo_278 p) := by kernel_rfl
theorem fi_303 : fnInfo (K06 p vs) 303 = some (scOf (hd.zo_278 p), bdOf (hd.zo_278 p), psOf (hd.zo_278 p), dfOf (hd.zo_278 p)) := info_at lk_303 (by kernel_rfl) (by kernel_rfl)
theorem kp_303 : keepIn (K06 p vs) (.ref 303) = true := by kernel_rfl
theorem en_303_2 {a0 a1 : V} : binds (K06 p vs) (psOf (hd.zo_278 p)) (dfOf (hd.zo_278 p)) [a0, a1] [] = some [(n_self, a0), (n_data, a1), (n_optimize, .int 20)] := by kernel_rfl
theorem lk_403 : (K06 p vs).lookup 403 = some (hd.zo_376 p) := by kernel_rfl
theorem fi_403 : fnInfo (K06 p vs) 403 = some (scOf (hd.zo_376 p), bdOf (hd.zo_376 p), psOf (hd.zo_376 p), dfOf (hd.zo_376 p)) := info_at lk_403 (by kernel_rfl) (by kernel_rfl)
theorem kp_403 : keepIn (K06 p vs) (.ref 403) = true := by kernel_rfl
theorem en_403_0 : binds (K06 p vs) (psOf (hd.zo_376 p)) (dfOf (hd.zo_376 p)) [] [] = some [] := by kernel_rfl
theorem lk_410 : (K06 p vs).lookup 410 = some (hd.zo_383 p) := by kernel_rfl
theorem fi_410 : fnInfo (K06 p vs) 410 = some (scOf (hd.zo_383 p), bdOf (hd.zo_383 p), psOf (hd.zo_383 p), dfOf (hd.zo_383 p)) := info_at lk_410 (by kernel_rfl) (by kernel_rfl)
theorem kp_410 : keepIn (K06 p vs) (.ref 410) = true := by kernel_rfl
theorem en_410_2 {a0 a1 : V} : binds (K06 p vs) (psOf (hd.zo_383 p)) (dfOf (hd.zo_383 p)) [a0, a1] [] = some [(n_parts, a0), (n_version, a1)] := by kernel_rfl
theorem lk_415 : (K06 p vs).lookup 415 = some (hd.zo_388 p) := by kernel_rfl
theorem fi_415 : fnInfo (K06 p vs) 415 = some (scOf (hd.zo_388 p), bdOf (hd.zo_388 p), psOf (hd.zo_388 p), dfOf (hd.zo_388 p)) := info_at lk_415 (by kernel_rfl) (by kernel_rfl)
theorem kp_415 : keepIn (K06 p vs) (.ref 415) = true := by kernel_rfl
theorem en_415_1 {a0 : V} : binds (K06 p vs) (psOf (hd.zo_388 p)) (dfOf (hd.zo_388 p)) [a0] [] = some [(n_script, a0)] := by kernel_rfl
theorem mk_160 : mkInfo (K06 p vs) 160 = some 136 := by kernel_rfl
theorem kp_160 : keepIn (K06 p vs) (.ref 160) = true := by kernel_rfl
theorem mk_214 : mkInfo (K06 p vs) 214 = some 178 := by kernel_rfl
theorem kp_214 : keepIn (K06 p vs) (.ref 214) = true := by kernel_rfl
theorem mk_392 : mkInfo (K06 p vs) 392 = some 254 := by kernel_rfl
theorem kp_392 : keepIn (K06 p vs) (.ref 392) = true := by kernel_rfl
theorem gl_BIT_LIMIT_TABLE : glob (K06 p vs) { cps := { toList := [66, 73, 84, 95, 76, 73, 77, 73, 84, 95, 84, 65, 66, 76, 69] } } = some (V.stat 78) := by kernel_rfl
theorem gl_BitBuffer : glob (K06 p vs) { cps := { toList := [66, 105, 116, 66, 117, 102, 102, 101, 114] } } = some (V.stat 214) := by kernel_rfl
theorem gl_MODE_8BIT_BYTE : glob (K06 p vs) { cps := { toList := [77, 79, 68, 69, 95, 56, 66, 73, 84, 95, 66, 89, 84, 69] } } = some (V.int (Int.ofNat 4)) := by kernel_rfl
theorem gl_MODE_ALPHA_NUM : glob (K06 p vs) { cps := { toList := [77, 79, 68, 69, 95, 65, 76, 80, 72, 65, 95, 78, 85, 77] } } = some (V.int (Int.ofNat 2)) := by kernel_rfl
theorem gl_MODE_NUMBER : glob (K06 p vs) { cps := { toList := [77, 79, 68, 69, 95, 78, 85, 77, 66, 69, 82] } } = some (V.int (Int.ofNat 1)) := by kernel_rfl
theorem gl_MODE_SIZE_LARGE : glob (K06 p vs) { cps := { toList := [77, 79, 68, 69, 95, 83, 73, 90, 69, 95, 76, 65, 82, 71, 69] } } = some (V.stat 72) := by kernel_rfl
theorem gl_MODE_SIZE_MEDIUM : glob (K06 p vs) { cps := { toList := [77, 79, 68, 69, 95, 83, 73, 90, 69, 95, 77, 69, 68, 73, 85, 77] } } = some (V.stat 71) := by kernel_rfl
theorem gl_MODE_SIZE_SMALL : glob (K06 p vs) { cps := { toList := [77, 79, 68, 69, 95, 83, 73, 90, 69, 95, 83, 77, 65, 76, 76] } } = some (V.stat 70) := by kernel_rfl
theorem gl_NUMBER_LENGTH : glob (K06 p vs) { cps := { toList := [78, 85, 77, 66, 69, 82, 95, 76, 69, 78, 71, 84, 72] } } = some (V.stat 73) := by kernel_rfl
theorem gl_QRCode : glob (K06 p vs) { cps := { toList := [81, 82, 67, 111, 100, 101] } } = some (V.stat 392) := by kernel_rfl
theorem gl_QRData : glob (K06 p vs) { cps := { toList := [81, 82, 68, 97, 116, 97] } } = some (V.stat 160) := by kernel_rfl
theorem gl_check_border : glob (K06 p vs) { cps := { toList := [95, 99, 104, 101, 99, 107, 95, 98, 111, 114, 100, 101, 114] } } = some (V.stat 232) := by kernel_rfl
theorem gl_check_box_size : glob (K06 p vs) { cps := { toList := [95, 99, 104, 101, 99, 107, 95, 98, 111, 120, 95, 115, 105, 122, 101] } } = some (V.stat 225) := by kernel_rfl
theorem gl_check_mask_pattern : glob (K06 p vs) { cps := { toList := [95, 99, 104, 101, 99, 107, 95, 109, 97, 115, 107, 95, 112, 97, 116, 116, 101, 114, 110] } } = some (V.stat 239) := by kernel_rfl
theorem gl_law_bits : glob (K06 p vs) { cps := { toList := [95, 108, 97, 119, 95, 98, 105, 116, 115] } } = some (V.stat 410) := by kernel_rfl
theorem gl_law_rooms : glob (K06 p vs) { cps := { toList := [95, 108, 97, 119, 95, 114, 111, 111, 109, 115] } } = some (V.stat 403) := by kernel_rfl
theorem gl_all : glob (K06 p vs) { cps := { toList := [97, 108, 108] } } = some (V.bi "all") := by kernel_rfl
theorem gl_bytes : glob (K06 p vs) { cps := { toList := [98, 121, 116, 101, 115] } } = some (V.type "bytes") := by kernel_rfl
theorem gl_check_version : glob (K06 p vs) { cps := { toList := [99, 104, 101, 99, 107, 95, 118, 101, 114, 115, 105, 111, 110] } } = some (V.stat 92) := by kernel_rfl
theorem gl_int : glob (K06 p vs) { cps := { toList := [105, 110, 116] } } = some (V.type "int") := by kernel_rfl
theorem gl_isinstance : glob (K06 p vs) { cps := { toList := [105, 115, 105, 110, 115, 116, 97, 110, 99, 101] } } = some (V.bi "isinstance") := by kernel_rfl
theorem gl_len : glob (K06 p vs) { cps := { toList := [108, 101, 110] } } = some (V.bi "len") := by kernel_rfl
theorem gl_mode_sizes_for_version : glob (K06 p vs) { cps := { toList := [109, 111, 100, 101, 95, 115, 105, 122, 101, 115, 95, 102, 111, 114, 95, 118, 101, 114, 115, 105, 111, 110] } } = some (V.stat 85) := by kernel_rfl
theorem gl_optimal_mode : glob (K06 p vs) { cps := { toList := [111, 112, 116, 105, 109, 97, 108, 95, 109, 111, 100, 101] } } = some (V.stat 121) := by kernel_rfl
theorem gl_range : glob (K06 p vs) { cps := { toList := [114, 97, 110, 103, 101] } } = some (V.type "range") := by kernel_rfl
theorem gl_to_bytestring : glob (K06 p vs) { cps := { toList := [116, 111, 95, 98, 121, 116, 101, 115, 116, 114, 105, 110, 103] } } = some (V.stat 114) := by kernel_rfl
theorem gl_bisect_left : glob (K06 p vs) { cps := { toList := [98, 105, 115, 101, 99, 116, 95, 108, 101, 102, 116] } } = some (V.bi "_bisect.bisect_left") := by kernel_rfl
theorem ak_160_mode : attrKind (K06 p vs) 160 { cps := { toList := [109, 111, 100, 101] } } = some AK.field := by kernel_rfl
theorem ak_160_data : attrKind (K06 p vs) 160 { cps := { toList := [100, 97, 116, 97] } } = some AK.field := by kernel_rfl
theorem ak_160_write : attrKind (K06 p vs) 160 { cps := { toList := [119, 114, 105, 116, 101] } } = some (AK.meth 150) := by kernel_rfl
theorem sk_160_mode : setKind (K06 p vs) 160 { cps := { toList := [109, 111, 100, 101] } } = some none := by kernel_rfl
theorem sk_160_data : setKind (K06 p vs) 160 { cps := { toList := [100, 97, 116, 97] } } = some none := by kernel_rfl
theorem mi_160_len : methIn (K06 p vs) 160 ("__len__" : Str) = some 143 := by kernel_rfl
theorem ak_214_buffer : attrKind (K06 p vs) 214 { cps := { toList := [98, 117, 102, 102, 101, 114] } } = some AK.field := by kernel_rfl
theorem ak_214_length : attrKind (K06 p vs) 214 { cps := { toList := [108, 101, 110, 103, 116, 104] } } = some AK.field := by kernel_rfl
theorem ak_214_put : attrKind (K06 p vs) 214 { cps := { toList := [112, 117, 116] } } = some (AK.meth 197) := by kernel_rfl
theorem ak_214_put_bit : attrKind (K06 p vs) 214 { cps := { toList := [112, 117, 116, 95, 98, 105, 116] } } = some (AK.meth 211) := by kernel_rfl
theorem sk_214_buffer : setKind (K06 p vs) 214 { cps := { toList := [98, 117, 102, 102, 101, 114] } } = some none := by kernel_rfl
theorem sk_214_length : setKind (K06 p vs) 214 { cps := { toList := [108, 101, 110, 103, 116, 104] } } = some none := by kernel_rfl
theorem mi_214_len : methIn (K06 p vs) 214 ("__len__" : Str) = some 204 := by kernel_rfl
theorem ak_392_version_u : attrKind (K06 p vs) 392 { cps := { toList := [95, 118, 101, 114, 115, 105, 111, 110] } } = some (AK.const V.none) := by kernel_rfl
theorem ak_392_version : attrKind (K06 p vs) 392 { cps := { toList := [118, 101, 114, 115, 105, 111, 110] } } = some (AK.prop 261) := by kernel_rfl
theorem ak_392_error_correction : attrKind (K06 p vs) 392 { cps := { toList := [101, 114, 114, 111, 114, 95, 99, 111, 114, 114, 101, 99, 116, 105, 111, 110] } } = some AK.field := by kernel_rfl
theorem ak_392_data_list : attrKind (K06 p vs) 392 { cps := { toList := [100, 97, 116, 97, 95, 108, 105, 115, 116] } } = some AK.field := by kernel_rfl
theorem ak_392_clear : attrKind (K06 p vs) 392 { cps := { toList := [99, 108, 101, 97, 114] } } = some (AK.meth 295) := by kernel_rfl
theorem ak_392_add_data : attrKind (K06 p vs) 392 { cps := { toList := [97, 100, 100, 95, 100, 97, 116, 97] } } = some (AK.meth 303) := by kernel_rfl
theorem ak_392_best_fit : attrKind (K06 p vs) 392 { cps := { toList := [98, 101, 115, 116, 95, 102, 105, 116] } } = some (AK.meth 333) := by kernel_rfl
theorem sk_392_version_u : setKind (K06 p vs) 392 { cps := { toList := [95, 118, 101, 114, 115, 105, 111, 110] } } = some none := by kernel_rfl
theorem sk_392_version : setKind (K06 p vs) 392 { cps := { toList := [118, 101, 114, 115, 105, 111, 110] } } = some (some 270) := by kernel_rfl
theorem sk_392_error_correction : setKind (K06 p vs) 392 { cps := { toList := [101, 114, 114, 111, 114, 95, 99, 111, 114, 114, 101, 99, 116, 105, 111, 110] } } = some none := by kernel_rfl
theorem sk_392_box_size : setKind (K06 p vs) 392 { cps := { toList := [98, 111, 120, 95, 115, 105, 122, 101] } } = some none := by kernel_rfl
theorem sk_392_border : setKind (K06 p vs) 392 { cps := { toList := [98, 111, 114, 100, 101, 114] } } = some none := by kernel_rfl
theorem sk_392_mask_pattern : setKind (K06 p vs) 392 { cps := { toList := [109, 97, 115, 107, 95, 112, 97, 116, 116, 101, 114, 110] } } = some (some 287) := by kernel_rfl
theorem sk_392_mask_pattern_u : setKind (K06 p vs) 392 { cps := { toList := [95, 109, 97, 115, 107, 95, 112, 97, 116, 116, 101, 114, 110] } } = some none := by kernel_rfl
theorem sk_392_image_factory : setKind (K06 p vs) 392 { cps := { toList := [105, 109, 97, 103, 101, 95, 102, 97, 99, 116, 111, 114, 121] } } = some none := by kernel_rfl
theorem sk_392_precomputed_qr_blanks : setKind (K06 p vs) 392 { cps := { toList := [112, 114, 101, 99, 111, 109, 112, 117, 116, 101, 100, 95, 113, 114, 95, 98, 108, 97, 110, 107, 115] } } = some none := by kernel_rfl
theorem sk_392_modules : setKind (K06 p vs) 392 { cps := { toList := [109, 111, 100, 117, 108, 101, 115] } } = some none := by kernel_rfl
theorem sk_392_modules_count : setKind (K06 p vs) 392 { cps := { toList := [109, 111, 100, 117, 108, 101, 115, 95, 99, 111, 117, 110, 116] } } = some none := by kernel_rfl
theorem sk_392_data_cache : setKind (K06 p vs) 392 { cps := { toList := [100, 97, 116, 97, 95, 99, 97, 99, 104, 101] } } = some none := by kernel_rfl
theorem sk_392_data_list : setKind (K06 p vs) 392 { cps := { toList := [100, 97, 116, 97, 95, 108, 105, 115, 116] } } = some none := by kernel_rfl
theorem lk_278 : (K06 p vs).lookup 278 = some (hd.zo_255 p) := by kernel_rfl
theorem fi_278 : fnInfo (K06 p vs) 278 = some (scOf (hd.zo_255 p), bdOf (hd.zo_255 p), psOf (hd.zo_255 p), dfOf (hd.zo_255 p)) := info_at lk_278 (by kernel_rfl) (by kernel_rfl)
theorem kp_278 : keepIn (K06 p vs) (.ref 278) = true := by kernel_rfl
theorem en_278_1 {a0 : V} : binds (K06 p vs) (psOf (hd.zo_255 p)) (dfOf (hd.zo_255 p)) [a0] [] = some [(n_self, a0)] := by kernel_rfl
end
end Mini
end
open PySem PySem.W PySem.W.X PyProof.Rows
namespace Mini
local macro_rules | `(tactic| walk_at "fact") => `(tactic| (with_reducible first | exact kp_211 | exact kp_197 | exact kp_204 | exact kp_178 | exact kp_85 | exact kp_92 | exact kp_333 | exact kp_150 | exact kp_143 | exact kp_136 | exact kp_114 | exact kp_121 | exact kp_225 | exact kp_232 | exact kp_239 | exact kp_254 | exact kp_261 | exact kp_270 | exact kp_287 | exact kp_295 | exact kp_303 | exact kp_403 | exact kp_410 | exact kp_415 | exact mk_160 | exact kp_160 | exact mk_214 | exact kp_214 | exact mk_392 | exact kp_392 | exact gl_BIT_LIMIT_TABLE | exact gl_BitBuffer | exact gl_MODE_8BIT_BYTE | exact gl_MODE_ALPHA_NUM | exact gl_MODE_NUMBER | exact gl_MODE_SIZE_LARGE | exact gl_MODE_SIZE_MEDIUM | exact gl_MODE_SIZE_SMALL | exact gl_NUMBER_LENGTH | exact gl_QRCode | exact gl_QRData | exact gl_check_border | exact gl_check_box_size | exact gl_check_mask_pattern | exact gl_law_bits | exact gl_law_rooms | exact gl_all | exact gl_bytes | exact gl_check_version | exact gl_int | exact gl_isinstance | exact gl_len | exact gl_mode_sizes_for_version | exact gl_optimal_mode | exact gl_range | exact gl_to_bytestring | exact gl_bisect_left | exact ak_160_mode | exact ak_160_data | exact ak_160_write | exact sk_160_mode | exact sk_160_data | exact mi_160_len | exact ak_214_buffer | exact ak_214_length | exact ak_214_put | exact ak_214_put_bit | exact sk_214_buffer | exact sk_214_length | exact mi_214_len | exact ak_392_version_u | exact ak_392_version | exact ak_392_error_correction | exact ak_392_data_list | exact ak_392_clear | exact ak_392_add_data | exact ak_392_best_fit | exact sk_392_version_u | exact sk_392_version | exact sk_392_error_correction | exact sk_392_box_size | exact sk_392_border | exact sk_392_mask_pattern | exact sk_392_mask_pattern_u | exact sk_392_image_factory | exact sk_392_precomputed_qr_blanks | exact sk_392_modules | exact sk_392_modules_count | exact sk_392_data_cache | exact sk_392_data_list | exact kp_278))
local macro_rules | `(tactic| walk_at "lk") => `(tactic| first
  | assumption
  | with_reducible exact lk_upd_self
  | with_reducible exact lk_cons_self
  | ((with_reducible refine' lk_upd_ne (by kernel_rfl) ?k0); (case k0 => walk_at "lk"))
  | ((with_reducible refine' lk_cons_ne (by kernel_rfl) ?k0); (case k0 => walk_at "lk"))
  | ((with_reducible refine' freeOf_lk (by kernel_rfl) ?k0); (case k0 => walk_at "nl")))
local macro_rules | `(tactic| walk_at "nl") => `(tactic| (with_reducible refine' nameL_cell (by kernel_rfl) ?k0); (case k0 => walk_at "lk"))
local macro_rules | `(tactic| walk_at "ne") => `(tactic| first
  | assumption
  | exact Ne.symm (by assumption)
  | omega
  | (simp only [List.length_append, List.length_set, List.length_cons, List.length_nil] at *; omega))
local macro_rules | `(tactic| walk_at "hp") => `(tactic| first
  | assumption
  | exact hp_new (by assumption)
  | exact hp_new rfl
  | (refine' hp_set_self ?k0; (case k0 => walk_at "hp"))
  | (refine' hp_app ?k0; (case k0 => walk_at "hp"))
  | (refine' hp_set_ne (by walk_at "ne") ?k0; (case k0 => walk_at "hp")))
local macro_rules | `(tactic| walk_at "maxl") => `(tactic| first
  | assumption
  | (unfold maxL; omega)
  | decide
  | (simp only [List.length_append, List.length_cons, List.length_nil, List.length_set, maxL]; first | done | omega)
  | (simp only [List.length_append, List.length_cons, List.length_nil, List.length_set, maxL] at *; omega))
local macro_rules | `(tactic| walk_at "num") => `(tactic| first
  | omega
  | (simp only [List.length_append, List.length_cons, List.length_nil, List.length_set]; omega))
local macro_rules | `(tactic| walk_at "bsimp") => `(tactic| simp only [decide_eq_true_eq, decide_eq_false_iff_not, beq_iff_eq, bne_iff_ne, Bool.not_eq_true', Bool.not_eq_false', beq_eq_false_iff_ne, ne_eq, Bool.not_eq_true, Bool.not_eq_false, Bool.not_not, Decidable.not_not, Bool.or_eq_true, Bool.and_eq_true, Bool.or_eq_false_iff, Bool.and_eq_false_iff, Bool.or_false, Bool.and_true, Int.ofNat_eq_natCast])
local macro_rules | `(tactic| walk_at "no") => `(tactic| first
  | (intro hc; cases hc; done)
  | decide
  | (walk_at "bsimp"; omega))
local macro_rules | `(tactic| walk_at "dec") => `(tactic| first
  | (refine' ⟨fun hc => absurd hc ?k0, fun _ => ?_⟩; (case k0 => walk_at "no"))
  | (refine' ⟨fun _ => ?_, fun hc => absurd hc ?k0⟩; (case k0 => walk_at "no")))
local macro_rules | `(tactic| walk_at "br") => `(tactic| (refine ⟨?_, ?_⟩ <;> intro hc <;> (try simp only [decide_eq_true_eq, decide_eq_false_iff_not, beq_iff_eq, bne_iff_ne, Bool.not_eq_true', Bool.not_eq_false', beq_eq_false_iff_ne, ne_eq, Bool.not_eq_true, Bool.not_eq_false, Bool.not_not, Decidable.not_not, Bool.or_eq_true, Bool.and_eq_true, Bool.or_eq_false_iff, Bool.and_eq_false_iff, Bool.or_false, Bool.and_true, Int.ofNat_eq_natCast] at hc)))
local macro_rules | `(tactic| walk_at "len9") => `(tactic| first
  | decide
  | omega
  | (simp only [List.length_cons, List.length_nil]; first | done | omega)
  | (refine putF_lt ?k0; (case k0 => walk_at "len9")))
local macro_rules | `(tactic| walk_at "iop") => `(tactic| first
  | with_reducible exact iop_add
  | with_reducible exact iop_sub
  | with_reducible exact iop_and
  | with_reducible exact iop_or
  | with_reducible exact iop_xor
  | ((with_reducible refine iop_mul ?k0 ?k1); (case k0 => walk_at "num"); (case k1 => walk_at "num"))
  | ((with_reducible refine iop_div ?k0 ?k1); (case k0 => walk_at "num"); (case k1 => walk_at "num"))
  | ((with_reducible refine iop_mod ?k0); (case k0 => walk_at "num"))
  | ((with_reducible refine iop_shr ?k0); (case k0 => walk_at "num"))
  | ((with_reducible refine iop_shl ?k0 ?k1 ?k2); (case k0 => walk_at "num"); (case k1 => walk_at "num"); (case k2 => walk_at "num")))
local macro_rules | `(tactic| walk_at "cmp") => `(tactic| first
  | with_reducible exact cmp_lt
  | with_reducible exact cmp_le
  | with_reducible exact cmp_gt
  | with_reducible exact cmp_ge
  | with_reducible exact cmp_eq
  | with_reducible exact cmp_ne
  | with_reducible exact cmp_is
  | with_reducible exact cmp_isnot
  | ((with_reducible refine' cmp_in_tup ?k0); (case k0 => rfl))
  | ((with_reducible refine' cmp_notin_tup ?k0); (case k0 => rfl)))
local macro_rules | `(tactic| walk_at "tru") => `(tactic| first
  | with_reducible exact tru_bool
  | with_reducible exact tru_int
  | with_reducible exact tru_none
  | ((with_reducible refine' tru_list ?k0 ?k1); (case k0 => walk_at "hp"); (case k1 => assumption)))
local macro_rules | `(tactic| walk_at "mev") => `(tactic| first
  | ((with_reducible refine' ev_local ?k0 ?k1 ?_); (case k0 => kernel_rfl); (case k1 => walk_at "lk"))
  | ((with_reducible refine' ev_glob ?k0 ?k1 ?_); (case k0 => kernel_rfl); (case k1 => walk_at "fact"))
  | ((with_reducible refine' ev_free ?k0 ?k1 ?_); (case k0 => kernel_rfl); (case k1 => walk_at "lk"))
  | ((with_reducible refine' ev_const ?k0 ?_); (case k0 => rfl))
  | ((with_reducible refine' ev_attr ?k0 ?_); (case k0 => rfl))
  | ((with_reducible refine' ev_binop  ?_))
  | ((with_reducible refine' ev_compare  ?_))
  | ((with_reducible refine' compare_w ?k0 ?_); (case k0 => rfl))
  | ((with_reducible refine' chain_one  ?_))
  | ((with_reducible refine' chain_two  ?_))
  | ((with_reducible refine' ev_subscript  ?_))
  | ((with_reducible refine' ev_meth ?k0 ?_); (case k0 => rfl))
  | ((with_reducible refine' ev_call ?k0 ?k1 ?_); (case k0 => rfl); (case k1 => rfl))
  | ((with_reducible refine' evs_cons  ?_))
  | ((with_reducible refine' evs_nil  ?_))
  | ((with_reducible refine' evk_cons  ?_))
  | ((with_reducible refine' evk_nil  ?_))
  | ((with_reducible refine' ev_slice  ?_))
  | ((with_reducible refine' part_some  ?_))
  | ((with_reducible refine' part_none  ?_))
  | ((with_reducible refine' ev_usub  ?_))
  | ((with_reducible refine' ev_list ?k0 ?_); (case k0 => rfl))
  | ((with_reducible refine' ev_tuple ?k0 ?_); (case k0 => rfl))
  | ((with_reducible refine' ev_dict0  ?_))
  | ((with_reducible refine' ev_and_nil  ?_))
  | ((with_reducible refine' ev_not  ?_)))
local macro_rules | `(tactic| walk_at "msb") => `(tactic| first
  | ((with_reducible refine' ev_ifexp  ?_))
  | ((with_reducible refine' st_if  ?_))
  | ((with_reducible refine' st_for  ?_))
  | ((with_reducible refine' st_while  ?_)))
local macro_rules | `(tactic| walk_at "mst") => `(tactic| first
  | ((with_reducible refine' st_assign' ?k0 ?k1 ?_); (case k0 => rfl); (case k1 => rfl))
  | ((with_reducible refine' st_assign_comp  ?_))
  | ((with_reducible refine' st_expr ?k0 ?_); (case k0 => rfl))
  | ((with_reducible refine' st_ret  ?_))
  | ((with_reducible refine' st_ret0  ?_))
  | ((with_reducible refine' st_aug_name ?k0 ?k1 ?_); (case k0 => exact name_local (by kernel_rfl) (by walk_at "lk")); (case k1 => kernel_rfl))
  | ((with_reducible refine' st_aug_attr  ?_))
  | ((with_reducible refine' st_aug_item ?k0 ?_); (case k0 => rfl))
  | ((with_reducible refine' st_pass  ?_))
  | ((with_reducible refine' st_brk  ?_))
  | ((with_reducible refine' st_cont  ?_))
  | ((with_reducible refine' ex_nil  ?_))
  | ((with_reducible refine' then_next  ?_))
  | ((with_reducible refine' then_ret  ?_))
  | ((with_reducible refine' then_brk  ?_))
  | ((with_reducible refine' then_cont  ?_))
  | ((with_reducible refine' body_w ?k0 ?_); (case k0 => rfl)))
local macro_rules | `(tactic| walk_at "mtr") => `(tactic| first
  | ((with_reducible refine' tr_compare  ?_))
  | ((with_reducible refine' tr_not  ?_))
  | ((with_reducible refine' tr_and  ?_))
  | ((with_reducible refine' tr_or  ?_))
  | ((with_reducible refine' all_cons  ?_))
  | ((with_reducible refine' all_nil  ?_))
  | ((with_reducible refine' any_cons  ?_))
  | ((with_reducible refine' any_nil  ?_))
  | ((with_reducible refine' tr_val ?k0 ?_); (case k0 => rfl)))
local macro_rules | `(tactic| walk_at "mop") => `(tactic| first
  | ((with_reducible refine' bin_int ?k0 ?_); (case k0 => walk_at "iop"))
  | ((with_reducible refine' inop_int ?k0 ?_); (case k0 => walk_at "iop"))
  | ((with_reducible refine' attr_field ?k0 ?k1 ?k2 ?k3 ?_); (case k0 => walk_at "hp"); (case k1 => walk_at "fact"); (case k2 => rfl); (case k3 => rfl))
  | ((with_reducible refine' attr_over ?k0 ?k1 ?k2 ?k3 ?_); (case k0 => walk_at "hp"); (case k1 => walk_at "fact"); (case k2 => rfl); (case k3 => rfl))
  | ((with_reducible refine' attr_const ?k0 ?k1 ?k2 ?_); (case k0 => walk_at "hp"); (case k1 => walk_at "fact"); (case k2 => rfl))
  | ((with_reducible refine' attr_prop ?k0 ?k1 ?_); (case k0 => walk_at "hp"); (case k1 => walk_at "fact"))
  | ((with_reducible refine' set_field ?k0 ?k1 ?k2 ?_); (case k0 => walk_at "hp"); (case k1 => walk_at "len9"); (case k2 => walk_at "fact"))
  | ((with_reducible refine' set_prop ?k0 ?k1 ?k2 ?_); (case k0 => walk_at "hp"); (case k1 => walk_at "len9"); (case k2 => walk_at "fact"))
  | ((with_reducible refine' asg_name ?k0 ?_); (case k0 => kernel_rfl))
  | ((with_reducible refine' asg_attr  ?_))
  | ((with_reducible refine' asg_item  ?_))
  | ((with_reducible refine' asgs_cons  ?_))
  | ((with_reducible refine' asgs_nil  ?_))
  | ((with_reducible refine' asg1_of ?k0 ?_); (case k0 => rfl))
  | ((with_reducible refine' mrun_fn  ?_))
  | ((with_reducible refine' mrun_bm  ?_))
  | ((with_reducible refine' call_bi  ?_))
  | ((with_reducible refine' call_ty  ?_))
  | ((with_reducible refine' call_stat ?k0 ?_); (case k0 => walk_at "fact"))
  | ((with_reducible refine' lenw_list ?k0 ?k1 ?_); (case k0 => walk_at "hp"); (case k1 => walk_at "num"))
  | ((with_reducible refine' lenw_bytes ?k0 ?_); (case k0 => walk_at "num"))
  | ((with_reducible refine' lenw_inst ?k0 ?k1 ?_); (case k0 => walk_at "hp"); (case k1 => walk_at "fact"))
  | ((with_reducible refine' range_1  ?_))
  | ((with_reducible refine' range_2  ?_))
  | ((with_reducible refine' range_3 ?k0 ?k1 ?_); (case k0 => walk_at "num"); (case k1 => walk_at "num"))
  | ((with_reducible refine' int_int  ?_))
  | ((with_reducible refine' item_list ?k0 ?k1 ?k2 ?k3 ?_); (case k0 => walk_at "hp"); (case k1 => walk_at "num"); (case k2 => walk_at "num"); (case k3 => assumption))
  | ((with_reducible refine' setw_list ?k0 ?k1 ?k2 ?k3 ?_); (case k0 => walk_at "hp"); (case k1 => walk_at "num"); (case k2 => walk_at "num"); (case k3 => walk_at "num"))
  | ((with_reducible refine' append_w ?k0 ?k1 ?_); (case k0 => walk_at "hp"); (case k1 => walk_at "maxl"))
  | ((with_reducible refine' newL_w ?k0 ?_); (case k0 => walk_at "maxl"))
  | ((with_reducible refine' it_w ?k0 ?_); (case k0 => rfl))
  | ((with_reducible refine' item_slice_bytes ?k0 ?_); (case k0 => walk_at "maxl"))
  | ((with_reducible refine' item_slice_list ?k0 ?k1 ?_); (case k0 => walk_at "hp"); (case k1 => walk_at "maxl"))
  | ((with_reducible refine' turn_w  ?_))
  | ((with_reducible refine' isinst_bytes  ?_))
  | ((with_reducible refine' isinst_own ?k0 ?_); (case k0 => walk_at "hp"))
  | ((with_reducible refine' isdigit_w  ?_))
  | ((with_reducible refine' find_w ?k0 ?k1 ?_); (case k0 => walk_at "num"); (case k1 => walk_at "num"))
  | ((with_reducible refine' asg_tuple ?k0 ?k1 ?_); (case k0 => rfl); (case k1 => exact unpack_tup rfl))
  | (intro j (hj : j = List.length _))
  | (with_reducible refine' Exists.intro _ (And.intro rfl ?_))
  | (with_reducible refine' And.intro (a := List.length _ ≤ maxL) ?k0 ?_; (case k0 => walk_at "maxl"))
  | ((with_reducible refine' ⟨_, mr_fn ?k0 ?k1 ?k2 ?k3, ?_⟩); (case k0 => walk_at "hp"); (case k1 => walk_at "fact"); (case k2 => rfl); (case k3 => walk_at "fact"))
  | ((refine' ⟨_, mr_append ?k0, ?_⟩); (case k0 => walk_at "hp"))
  | ((with_reducible refine' ⟨_, mr_bytes ?k0, ?_⟩); (case k0 => rfl))
  | ((with_reducible refine' ⟨_, ?k0, ?_⟩); (case k0 => first | walk_at "cmp" | walk_at "tru")))
local macro_rules | `(tactic| walk_at "one0") => `(tactic| first | walk_at "mev" | walk_at "mst" | walk_at "mtr" | walk_at "mop" | walk_at "dec")
local macro_rules | `(tactic| walk_at "go0") => `(tactic| repeat walk_at "one0")
local macro_rules | `(tactic| walk_at "go") => `(tactic| repeat walk_at "one")
local macro_rules | `(tactic| walk_at "one") => `(tactic| first | walk_at "mev" | walk_at "mst" | walk_at "msb" | walk_at "mtr" | walk_at "mop" | walk_at "dec")
section
variable {p : Params} {vs : List Value} {n : Nat} {H : Hp} {Q : V → Hp → Prop}
def Ints (xs : List V) : Prop := ∀ v ∈ xs, ∃ k, v = .int k
theorem ints_get {xs : List V} (h : Ints xs) {i : Nat} (hi : i < xs.length) : ∃ k, xs[i]? = some (.int k) := by
  obtain ⟨k, e⟩ := h xs[i] (List.getElem_mem hi)
  exact ⟨k, by rw [List.getElem?_eq_getElem hi, e]⟩
theorem ints_snoc {xs : List V} (h : Ints xs) (k : Int) : Ints (xs ++ [.int k]) := fun v hv => by
  rcases List.mem_append.mp hv with e | e
  · exact h v e
  · exact ⟨k, List.mem_singleton.mp e⟩
theorem ints_set {xs : List V} (h : Ints xs) (i : Nat) (k : Int) : Ints (xs.set i (.int k)) := fun v hv => by
  rcases List.mem_or_eq_of_mem_set hv with e | e
  · exact h v e
  · exact ⟨k, e⟩
theorem put_bit_w {i j : Nat} {l : Int} {xs : List V} {b : Bool} (hi : H[i]? = some (.inst 214 [(n_buffer, .ref j), (n_length, .int l)])) (hj : H[j]? = some (.list xs)) (hij : i ≠ j) (hl : 0 ≤ l) (hx : (xs.length : Int) = (l + 7) / 8) (hs : l < 8000000)
  (hxi : Ints xs)
  (q : ∀ xs' : List V, (xs'.length : Int) = (l + 8) / 8 → Ints xs' → Q .none ((H.set j (.list xs')).set i (.inst 214 [(n_buffer, .ref j), (n_length, .int (l + 1))]))) :
  OW ((run (K06 p vs) (n + 12)).call (.stat 211) [.ref i, .bool b] [] H) Q := by
  refine call_fn fi_211 en_211_2 (by kernel_rfl) ?_
  walk_at "go"
  refine ⟨fun hc => ?_, fun hc => ?_⟩
  · have hc := of_decide_eq_true hc
    obtain ⟨k, hk⟩ := ints_get (ints_snoc hxi 0) (i := (l / 8).toNat) (by simp only [List.length_append, List.length_cons, List.length_nil]; omega)
    walk_at "go"
    refine ⟨fun hb => ?_, fun hb => ?_⟩
    · walk_at "go"
      refine cast (congrArg (Q .none) ?_) (q ((xs ++ [V.int 0]).set (l / 8).toNat (V.int (Builtin.bitOr k (128 / 2 ^ (l % 8).toNat)))) (by walk_at "num") (ints_set (ints_snoc hxi 0) _ _))
      rw [List.set_set]; rfl
    · walk_at "go"
      exact q (xs ++ [V.int 0]) (by walk_at "num") (ints_snoc hxi 0)
  · have hc := of_decide_eq_false hc
    obtain ⟨k, hk⟩ := ints_get hxi (i := (l / 8).toNat) (by omega)
    walk_at "go"
    refine ⟨fun hb => ?_, fun hb => ?_⟩
    · walk_at "go"
      exact q (xs.set (l / 8).toNat (V.int (Builtin.bitOr k (128 / 2 ^ (l % 8).toNat)))) (by walk_at "num") (ints_set hxi _ _)
    · walk_at "go"
      refine cast (congrArg (Q .none) ?_) (q xs (by walk_at "num") hxi)
      rw [set_same hj]; rfl
end
section
variable {p : Params} {vs : List Value} {n : Nat} {H : Hp} {Q : V → Hp → Prop}
/-- the buffer object i with its list j, l bits long -/
structure Buf (H : Hp) (i j : Nat) (l : Int) (xs : List V) : Prop where
  inst : H[i]? = some (.inst 214 [(n_buffer, .ref j), (n_length, .int l)])
  list : H[j]? = some (.list xs)
  ne : i ≠ j
  pos : 0 ≤ l
  len : (xs.length : Int) = (l + 7) / 8
  allints : Ints xs
abbrev bufS (H : Hp) (i j : Nat) (l : Int) (xs : List V) : Hp := (H.set j (.list xs)).set i (.inst 214 [(n_buffer, .ref j), (n_length, .int l)])
theorem buf_same {i j : Nat} {l : Int} {xs : List V} (hb : Buf H i j l xs) : bufS H i j l xs = H := by
  unfold bufS; rw [set_same hb.list, set_same hb.inst]
theorem buf_buf {i j : Nat} {l l' : Int} {xs ys : List V} (hn : i ≠ j) : bufS (bufS H i j l xs) i j l' ys = bufS H i j l' ys := by
  unfold bufS
  rw [List.set_comm _ _ hn, List.set_set, List.set_set]
theorem buf_buf_is {i j : Nat} {l l' : Int} {xs ys : List V} (hb : Buf H i j l xs) (hp : 0 ≤ l') (hl : (ys.length : Int) = (l' + 7) / 8) (hy : Ints ys) : Buf (bufS H i j l' ys) i j l' ys := by
  have hn := hb.ne
  refine ⟨?_, ?_, hn, hp, hl, hy⟩
  · have h2 := hp_set_ne (o' := .list ys) (Ne.symm hn) hb.inst
    exact hp_set_self h2
  · exact hp_set_ne hn (hp_set_self hb.list)
theorem buf_other {i j k : Nat} {l : Int} {xs : List V} (h1 : k ≠ i) (h2 : k ≠ j) : (bufS H i j l xs)[k]? = H[k]? := by
  unfold bufS
  rw [List.getElem?_set_ne (Ne.symm h1), List.getElem?_set_ne (Ne.symm h2)]
theorem buf_length {i j : Nat} {l : Int} {xs : List V} : (bufS H i j l xs).length = H.length := by unfold bufS; simp

theorem put_w {i j : Nat} {num len l : Int} {xs : List V} (hb : Buf H i j l xs) (h0 : 0 ≤ len) (h1 : len < 100000) (hs : l + len < 8000000)
  (q : ∀ xs' : List V, Buf (bufS H i j (l + len) xs') i j (l + len) xs' → Q .none (bufS H i j (l + len) xs')) :
  OW ((run (K06 p vs) (n + 22)).call (.stat 197) [.ref i, .int num, .int len] [] H) Q := by
  have hi := hb.inst
  have hj := hb.list
  have hij := hb.ne
  have hl := hb.pos
  have hx := hb.len
  refine call_fn fi_197 en_197_3 (by kernel_rfl) ?_
  walk_at "go"
  refine it_rng1 (by omega) (by omega) ?_ (by omega)
  refine for_up (I := fun k ρ H' => ρ.lookup n_self = some (.ref i) ∧ ρ.lookup n_num = some (.int num) ∧ ρ.lookup n_length = some (.int len) ∧ ∃ xs', (xs'.length : Int) = (l + k + 7) / 8 ∧ Ints xs' ∧ H' = (H.set j (.list xs')).set i (.inst 214 [(n_buffer, .ref j), (n_length, .int (l + k))])) ?_ ?_ ?_ ?_
  · omega
  · refine ⟨by walk_at "lk", by walk_at "lk", by walk_at "lk", xs, by omega, hb.allints, ?_⟩
    rw [set_same hj, Int.natCast_zero, Int.add_zero, set_same hi]
  · rintro k ρ H' hk ⟨r1, r2, r3, xs', x1, x2, rfl⟩
    walk_at "go"
    refine put_bit_w (xs := xs') (by walk_at "hp") (by walk_at "hp") hij (by omega) (by omega) (by omega) x2 fun xs2 y1 y2 => ?_
    walk_at "go"
    refine ⟨by walk_at "lk", by walk_at "lk", by walk_at "lk", xs2, by omega, y2, ?_⟩
    have : l + ((k + 1 : Nat) : Int) = l + (k : Int) + 1 := by omega
    rw [this]
    exact buf_buf hij
  · rintro ρ H' ⟨r1, r2, r3, xs', x1, x2, rfl⟩
    walk_at "go"
    have e : l + ((len - 0).toNat : Int) = l + len := by omega
    have e2 : l + ((len - 0).toNat : Int) + 7 = l + len + 7 := by omega
    rw [e]
    rw [e2] at x1
    exact q xs' (buf_buf_is hb (by omega) x1 x2)

/-- a version in bounds is taken -/
theorem check_version_w {v : Int} (h1 : 1 ≤ v) (h2 : v ≤ 40) (q : Q .none H) : OW ((run (K06 p vs) (n + 12)).call (.stat 92) [.int v] [] H) Q := by
  refine call_fn fi_92 en_92_1 (by kernel_rfl) ?_
  walk_at "go"
  exact q
theorem mode_sizes_w {v : Int} (q : Q (.stat (if v < 10 then 70 else if v < 27 then 71 else 72)) H) : OW ((run (K06 p vs) (n + 12)).call (.stat 85) [.int v] [] H) Q := by
  refine call_fn fi_85 en_85_1 (by kernel_rfl) ?_
  walk_at "go"
  walk_at "br"
  · walk_at "go"
    rename_i h
    rw [if_pos h] at q; exact q
  · walk_at "go"
    walk_at "br"
    · walk_at "go"
      rename_i h h'
      rw [if_neg h, if_pos h'] at q; exact q
    · walk_at "go"
      rename_i h h'
      rw [if_neg h, if_neg h'] at q; exact q
theorem buf_len_w {i j : Nat} {l : Int} {xs : List V} (hb : Buf H i j l xs) (q : Q (.int l) H) : OW ((run (K06 p vs) (n + 12)).call (.stat 204) [.ref i] [] H) Q := by
  have hi := hb.inst
  refine call_fn fi_204 en_204_1 (by kernel_rfl) ?_
  walk_at "go"
  exact q
theorem buf_init_w {i : Nat} (hi : H[i]? = some (.inst 214 [])) (q : ∀ j, j = H.length → Q .none ((H ++ [O.list []]).set i (.inst 214 [(n_buffer, .ref j), (n_length, .int 0)]))) : OW ((run (K06 p vs) (n + 12)).call (.stat 178) [.ref i] [] H) Q := by
  refine call_fn fi_178 en_178_1 (by kernel_rfl) ?_
  have hil := hp_lt hi
  walk_at "go"
  rename_i j hj
  refine cast (congrArg (Q .none) ?_) (q j hj)
  rw [List.set_set]; rfl
end
section
variable {p : Params} {vs : List Value} {n : Nat} {H : Hp} {Q : V → Hp → Prop}
def alphaB : Array UInt8 := #[48, 49, 50, 51, 52, 53, 54, 55, 56, 57, 65, 66, 67, 68, 69, 70, 71, 72, 73, 74, 75, 76, 77, 78, 79, 80, 81, 82, 83, 84, 85, 86, 87, 88, 89, 90, 32, 36, 37, 42, 43, 45, 46, 47, 58]
theorem ns_alpha : nsIn (K06 p vs) mainGlobals n_ALPHA_NUM = some (some (.bytes alphaB 395)) := by kernel_rfl
theorem gl_alpha : glob (K06 p vs) n_ALPHA_NUM = some (.bytes alphaB) := by kernel_rfl
local macro_rules | `(tactic| walk_at "fact") => `(tactic| with_reducible exact gl_alpha)
/-- the mode that a row of octets asks for at the least -/
def omode (b : Array UInt8) : Int := if isDigits b.toList then 1 else if b.toList.all (fun u => alphaB.contains u) then 2 else 4
theorem to_bytes_w {b : Array UInt8} (q : Q (.bytes b) H) : OW ((run (K06 p vs) (n + 12)).call (.stat 114) [.bytes b] [] H) Q := by
  refine call_fn fi_114 en_114_1 (by kernel_rfl) ?_
  walk_at "go"
  exact q
theorem omode_w {b : Array UInt8} (q : Q (.int (omode b)) H) : OW ((run (K06 p vs) (n + 12)).call (.stat 121) [.bytes b] [] H) Q := by
  unfold omode at q
  refine call_fn fi_121 en_121_1 (by kernel_rfl) ?_
  walk_at "go"
  walk_at "br"
  · walk_at "go"
    rename_i h
    rw [if_pos h] at q; exact q
  · walk_at "go"
    rename_i h
    rw [if_neg (by rw [h]; decide)] at q
    refine ev_all (name_glob (by kernel_rfl) (by walk_at "fact")) (genV_w (by kernel_rfl) (name_local (by kernel_rfl) (by walk_at "lk")) ns_alpha) ?_
    walk_at "go"
    walk_at "br"
    · walk_at "go"
      rename_i h'
      rw [if_pos h'] at q; exact q
    · walk_at "go"
      rename_i h'
      rw [if_neg (by rw [h']; decide)] at q; exact q
/-- a mode that holds a row -/
def holdsMode (m : Int) (b : Array UInt8) : Prop := (m = 1 ∨ m = 2 ∨ m = 4) ∧ omode b ≤ m
theorem qrd_init_w {i : Nat} {m : Int} {b : Array UInt8} (hi : H[i]? = some (.inst 160 [])) (hm : holdsMode m b) (q : Q .none (H.set i (.inst 160 [(n_mode, .int m), (n_data, .bytes b)]))) : OW ((run (K06 p vs) (n + 22)).call (.stat 136) [.ref i, .bytes b] [(n_mode, .int m)] H) Q := by
  refine call_fn fi_136 en_136_2_1 (by kernel_rfl) ?_
  have hil := hp_lt hi
  obtain ⟨hm1, hm2⟩ := hm
  rcases hm1 with rfl | rfl | rfl
  all_goals
    walk_at "go"
    refine to_bytes_w ?_
    walk_at "go"
    refine omode_w ?_
    walk_at "go"
    refine cast (congrArg (Q .none) ?_) q
    rw [List.set_set]; rfl
theorem qrd_len_w {i : Nat} {m : V} {b : Array UInt8} (hi : H[i]? = some (.inst 160 [(n_mode, m), (n_data, .bytes b)])) (hb : b.size < 1000000) (q : Q (.int b.size) H) : OW ((run (K06 p vs) (n + 12)).call (.stat 143) [.ref i] [] H) Q := by
  refine call_fn fi_143 en_143_1 (by kernel_rfl) ?_
  walk_at "go"
  exact q
end
section
variable {p : Params} {vs : List Value} {n : Nat} {H : Hp} {Q : V → Hp → Prop}
local macro_rules | `(tactic| walk_at "fact") => `(tactic| with_reducible exact gl_alpha)
theorem alpha_size : alphaB.size = 45 := rfl
theorem qrd_new_w {m : Int} {b : Array UInt8} (hm : holdsMode m b) (q : ∀ i, i = H.length → Q (.ref i) (H ++ [.inst 160 [(n_mode, .int m), (n_data, .bytes b)]])) : OW ((run (K06 p vs) (n + 23)).call (.stat 160) [.bytes b] [(n_mode, .int m)] H) Q := by
  refine call_new mk_160 fun i hi => ?_
  refine qrd_init_w (hp_new hi) hm ⟨rfl, ?_⟩
  have := q i hi
  subst hi
  rw [List.set_append_right _ _ (Nat.le_refl _), Nat.sub_self]
  exact this
/-- the bits of a row of so many octets -/
def b1 (k : Nat) : Int := ((10 * (k / 3) + (if k % 3 = 1 then 4 else if k % 3 = 2 then 7 else 0) : Nat) : Int)
def b2 (k : Nat) : Int := ((11 * (k / 2) + 6 * (k % 2) : Nat) : Int)
def bitsOf (m : Int) (k : Nat) : Int := if m = 1 then b1 k else if m = 2 then b2 k else 8 * (k : Int)
theorem b2_odd {k n : Nat} (h : 2 * k < n) (h2 : n ≤ 2 * k + 1) : b2 n = b2 (2 * k) + 6 := by unfold b2; omega
theorem b2_even {k : Nat} : b2 (2 * (k + 1)) = b2 (2 * k) + 11 := by unfold b2; omega
theorem b1_one {k n : Nat} (h : n = 3 * k + 1) : b1 n = b1 (3 * k) + 4 := by
  subst h; unfold b1; rw [if_pos (by omega), if_neg (by omega), if_neg (by omega)]; omega
theorem b1_two {k n : Nat} (h : n = 3 * k + 2) : b1 n = b1 (3 * k) + 7 := by
  subst h; unfold b1; rw [if_neg (by omega), if_pos (by omega), if_neg (by omega), if_neg (by omega)]; omega
theorem b1_three {k : Nat} : b1 (3 * (k + 1)) = b1 (3 * k) + 10 := by
  unfold b1; rw [if_neg (by omega), if_neg (by omega), if_neg (by omega), if_neg (by omega)]; omega
theorem b1_le {k : Nat} : 0 ≤ b1 k ∧ b1 k ≤ 11 * k := by
  unfold b1; split
  · omega
  · split <;> omega
theorem b2_le {k : Nat} : 0 ≤ b2 k ∧ b2 k ≤ 11 * k := by unfold b2; omega
theorem bytesL_length {b : Array UInt8} : (bytesL b).length = b.size := by unfold bytesL; simp
theorem bytesL_get {b : Array UInt8} {k : Nat} (h : k < (bytesL b).length) : ∃ u : Int, (bytesL b)[k] = .int u := by
  have hm := List.getElem_mem h
  obtain ⟨w, _, e⟩ := List.mem_map.mp hm
  exact ⟨_, e.symm⟩
theorem write8_w {i j d : Nat} {l : Int} {xs : List V} {b : Array UInt8} (hd : H[d]? = some (.inst 160 [(n_mode, .int 4), (n_data, .bytes b)])) (hb : Buf H i j l xs) (hdi : d ≠ i) (hdj : d ≠ j) (hs : b.size < 1000) (hl : l < 100000)
  (q : ∀ xs' : List V, Buf (bufS H i j (l + bitsOf 4 b.size) xs') i j (l + bitsOf 4 b.size) xs' → Q .none (bufS H i j (l + bitsOf 4 b.size) xs')) :
  OW ((run (K06 p vs) (n + 34)).call (.stat 150) [.ref d, .ref i] [] H) Q := by
  refine call_fn fi_150 en_150_2 (by kernel_rfl) ?_
  walk_at "go"
  refine it_bytes ?_
  have hps := hb.pos
  refine for_items (I := fun k ρ H' => ρ.lookup n_buffer = some (.ref i) ∧ ∃ xs', Buf (bufS H i j (l + 8 * k) xs') i j (l + 8 * k) xs' ∧ H' = bufS H i j (l + 8 * k) xs') ?_ ?_ ?_ ?_
  · rw [bytesL_length]; omega
  · refine ⟨by walk_at "lk", xs, ?_, ?_⟩
    · simp only [Int.natCast_zero, Int.mul_zero, Int.add_zero]; rw [buf_same hb]; exact hb
    · simp only [Int.natCast_zero, Int.mul_zero, Int.add_zero]; rw [buf_same hb]
  · rintro k hk ρ H' ⟨r1, xs', hb', rfl⟩
    obtain ⟨u, hu⟩ := bytesL_get hk
    rw [bytesL_length] at hk
    rw [hu]
    have hbi := hb'.inst
    walk_at "go"
    refine put_w hb' (by omega) (by omega) (by omega) fun ys hy => ?_
    walk_at "go"
    refine ⟨by walk_at "lk", ys, ?_⟩
    rw [buf_buf hb.ne] at hy ⊢
    have e : l + 8 * (k : Int) + 8 = l + 8 * ((k + 1 : Nat) : Int) := by omega
    rw [e] at hy ⊢
    exact ⟨hy, rfl⟩
  · rintro ρ H' ⟨r1, xs', hb', rfl⟩
    walk_at "go"
    rw [bytesL_length] at hb' ⊢
    exact q xs' hb'
theorem size_cut {b : Array UInt8} {lo hi : Int} (h0 : 0 ≤ lo) (h1 : lo ≤ hi) : (cut b.toList (some lo) (some hi)).toArray.size = min (hi - lo).toNat (b.size - lo.toNat) := by
  rw [cut_mid h0 h1, List.size_toArray, List.length_take, List.length_drop, Array.length_toList]
theorem size_cut_hi {b : Array UInt8} {hi : Int} (h1 : 0 ≤ hi) : (cut b.toList none (some hi)).toArray.size = min hi.toNat b.size := by
  rw [cut_hi h1, List.size_toArray, List.length_take, Array.length_toList]
theorem size_cut_lo {b : Array UInt8} {lo : Int} (h1 : 0 ≤ lo) : (cut b.toList (some lo) none).toArray.size = b.size - lo.toNat := by
  rw [cut_lo h1, List.size_toArray, List.length_drop, Array.length_toList]
theorem write2_w {i j d : Nat} {l : Int} {xs : List V} {b : Array UInt8} (hd : H[d]? = some (.inst 160 [(n_mode, .int 2), (n_data, .bytes b)])) (hb : Buf H i j l xs) (hdi : d ≠ i) (hdj : d ≠ j) (hs : b.size < 1000) (hl : l < 100000)
  (q : ∀ xs' : List V, Buf (bufS H i j (l + b2 b.size) xs') i j (l + b2 b.size) xs' → Q .none (bufS H i j (l + b2 b.size) xs')) :
  OW ((run (K06 p vs) (n + 34)).call (.stat 150) [.ref d, .ref i] [] H) Q := by
  refine call_fn fi_150 en_150_2 (by kernel_rfl) ?_
  walk_at "go"
  have hps := hb.pos
  refine it_rng (by omega) (by omega) (by omega) ?_
  refine for_up (I := fun k ρ H' => ρ.lookup n_self = some (.ref d) ∧ ρ.lookup n_buffer = some (.ref i) ∧ ∃ xs', Buf (bufS H i j (l + b2 (min (2 * k) b.size)) xs') i j (l + b2 (min (2 * k) b.size)) xs' ∧ H' = bufS H i j (l + b2 (min (2 * k) b.size)) xs') ?_ ?_ ?_ ?_
  · split <;> omega
  · have e : l + b2 (min (2 * 0) b.size) = l := by
      have : min (2 * 0) b.size = 0 := by omega
      rw [this]; show l + 0 = l; omega
    rw [e]
    refine ⟨by walk_at "lk", by walk_at "lk", xs, ?_, ?_⟩
    · rw [buf_same hb]; exact hb
    · rw [buf_same hb]
  · rintro k ρ H' hk ⟨r1, r2, xs', hb', rfl⟩
    have hd' : (bufS H i j (l + b2 (min (2 * k) b.size)) xs')[d]? = some (.inst 160 [(n_mode, .int 2), (n_data, .bytes b)]) := by rw [buf_other hdi hdj]; exact hd
    have hbi := hb'.inst
    have hk2 : 2 * k < b.size := by
      split at hk <;> omega
    have hbd := b2_le (k := min (2 * k) b.size)
    have ha := alpha_size
    have c1 := size_cut (b := b) (lo := 0 + (k : Int) * 2) (hi := 0 + (k : Int) * 2 + 2) (by omega) (by omega)
    have c2 := size_cut_hi (b := (cut b.toList (some (0 + (k : Int) * 2)) (some (0 + (k : Int) * 2 + 2))).toArray) (hi := 1) (by omega)
    have c3 := size_cut_lo (b := (cut b.toList (some (0 + (k : Int) * 2)) (some (0 + (k : Int) * 2 + 2))).toArray) (lo := 1) (by omega)
    walk_at "go"
    walk_at "br"
    · rename_i hc
      walk_at "go"
      rintro k1 hk1
      walk_at "go"
      rintro k2 hk2
      walk_at "go"
      refine put_w hb' (by omega) (by omega) (by omega) fun ys hy => ?_
      walk_at "go"
      refine ⟨by walk_at "lk", by walk_at "lk", ys, ?_⟩
      rw [buf_buf hb.ne] at hy ⊢
      have e1 : min (2 * k) b.size = 2 * k := by omega
      have e2 : min (2 * (k + 1)) b.size = 2 * (k + 1) := by omega
      have e : l + b2 (min (2 * k) b.size) + 11 = l + b2 (min (2 * (k + 1)) b.size) := by rw [e1, e2, b2_even]; omega
      rw [e] at hy ⊢
      exact ⟨hy, rfl⟩
    · rename_i hc
      walk_at "go"
      rintro k1 hk1
      walk_at "go"
      refine put_w hb' (by omega) (by omega) (by omega) fun ys hy => ?_
      walk_at "go"
      refine ⟨by walk_at "lk", by walk_at "lk", ys, ?_⟩
      rw [buf_buf hb.ne] at hy ⊢
      have e1 : min (2 * k) b.size = 2 * k := by omega
      have e2 : min (2 * (k + 1)) b.size = b.size := by omega
      have e : l + b2 (min (2 * k) b.size) + 6 = l + b2 (min (2 * (k + 1)) b.size) := by rw [e1, e2, b2_odd hk2 (by omega)]; omega
      rw [e] at hy ⊢
      exact ⟨hy, rfl⟩
  · rintro ρ H' ⟨r1, r2, xs', hb', rfl⟩
    walk_at "go"
    have e : min (2 * (if (0 : Int) < (b.size : Int) then ((b.size : Int) - 0 - 1) / 2 + 1 else 0).toNat) b.size = b.size := by
      split <;> omega
    rw [e] at hb' ⊢
    exact q xs' hb'
theorem dict_73 : dictOfV (K06 p vs) [] (.stat 73) = some [(3, V.int 10), (2, V.int 7), (1, V.int 4)] := by kernel_rfl
/-- a row of digits, and what it says -/
def digitsAll (b : Array UInt8) : Prop := ∀ u ∈ b.toList, 48 ≤ u.toNat ∧ u.toNat ≤ 57
theorem dig_of {l : List Nat} (h0 : l ≠ []) (h1 : l.length ≤ 100) (h2 : ∀ u ∈ l, 48 ≤ u ∧ u ≤ 57) : ∃ k, digitsOf l = some k := by
  unfold digitsOf
  have e : (l.isEmpty || decide (100 < l.length) || !l.all (fun u => decide (48 ≤ u) && decide (u ≤ 57))) = false := by
    rw [Bool.or_eq_false_iff, Bool.or_eq_false_iff]
    refine ⟨⟨?_, ?_⟩, ?_⟩
    · cases l with
      | nil => exact absurd rfl h0
      | cons => rfl
    · simp; omega
    · simp only [Bool.not_eq_false', List.all_eq_true, Bool.and_eq_true, decide_eq_true_eq]
      exact h2
  rw [e]
  exact ⟨_, rfl⟩
theorem write1_w {i j d : Nat} {l : Int} {xs : List V} {b : Array UInt8} (hd : H[d]? = some (.inst 160 [(n_mode, .int 1), (n_data, .bytes b)])) (hb : Buf H i j l xs) (hdi : d ≠ i) (hdj : d ≠ j) (hs : b.size < 1000) (hl : l < 100000) (hda : digitsAll b)
  (q : ∀ xs' : List V, Buf (bufS H i j (l + b1 b.size) xs') i j (l + b1 b.size) xs' → Q .none (bufS H i j (l + b1 b.size) xs')) :
  OW ((run (K06 p vs) (n + 34)).call (.stat 150) [.ref d, .ref i] [] H) Q := by
  refine call_fn fi_150 en_150_2 (by kernel_rfl) ?_
  walk_at "go"
  have hps := hb.pos
  refine it_rng (by omega) (by omega) (by omega) ?_
  refine for_up (I := fun k ρ H' => ρ.lookup n_self = some (.ref d) ∧ ρ.lookup n_buffer = some (.ref i) ∧ ∃ xs', Buf (bufS H i j (l + b1 (min (3 * k) b.size)) xs') i j (l + b1 (min (3 * k) b.size)) xs' ∧ H' = bufS H i j (l + b1 (min (3 * k) b.size)) xs') ?_ ?_ ?_ ?_
  · split <;> omega
  · have e : l + b1 (min (3 * 0) b.size) = l := by
      have : min (3 * 0) b.size = 0 := by omega
      rw [this]; show l + 0 = l; omega
    rw [e]
    refine ⟨by walk_at "lk", by walk_at "lk", xs, ?_, ?_⟩
    · rw [buf_same hb]; exact hb
    · rw [buf_same hb]
  · rintro k ρ H' hk ⟨r1, r2, xs', hb', rfl⟩
    have hd' : (bufS H i j (l + b1 (min (3 * k) b.size)) xs')[d]? = some (.inst 160 [(n_mode, .int 1), (n_data, .bytes b)]) := by rw [buf_other hdi hdj]; exact hd
    have hbi := hb'.inst
    have hk2 : 3 * k < b.size := by
      split at hk <;> omega
    have hbd := b1_le (k := min (3 * k) b.size)
    have c1 := size_cut (b := b) (lo := 0 + (k : Int) * 3) (hi := 0 + (k : Int) * 3 + 3) (by omega) (by omega)
    walk_at "go"
    have cm : ∀ u ∈ (cut b.toList (some (0 + (k : Int) * 3)) (some (0 + (k : Int) * 3 + 3))), u ∈ b.toList := fun u hu => by
      rw [cut_mid (by omega) (by omega)] at hu
      exact List.mem_of_mem_drop (List.mem_of_mem_take hu)
    generalize (cut b.toList (some (0 + (k : Int) * 3)) (some (0 + (k : Int) * 3 + 3))) = c at *
    have hsz : c.toArray.size = c.length := List.size_toArray
    have hdig : ∀ u ∈ c, 48 ≤ u.toNat ∧ u.toNat ≤ 57 := fun u hu => hda u (cm u hu)
    obtain ⟨num, hnum⟩ := dig_of (l := (c.toArray.map UInt8.toNat).toList) (by
        intro e; have h9 : c.length = 0 := by simpa using congrArg List.length e
        omega) (by simp; omega) (by
        intro u hu
        simp at hu
        obtain ⟨w, hw, rfl⟩ := hu
        exact hdig w hw)
    have hw : ∃ w : Int, findK (c.toArray.size : Int) [(3, V.int 10), (2, V.int 7), (1, V.int 4)] = some (.int w) ∧ 0 ≤ w ∧ w ≤ 10 ∧ l + b1 (min (3 * k) b.size) + w = l + b1 (min (3 * (k + 1)) b.size) := by
      have e0 : min (3 * k) b.size = 3 * k := by omega
      rw [e0]
      by_cases h3 : c.toArray.size = 3
      · refine ⟨10, by rw [h3]; rfl, by decide, by decide, ?_⟩
        have e1 : min (3 * (k + 1)) b.size = 3 * (k + 1) := by omega
        rw [e1, b1_three]; omega
      · by_cases h2 : c.toArray.size = 2
        · refine ⟨7, by rw [h2]; rfl, by decide, by decide, ?_⟩
          have e1 : min (3 * (k + 1)) b.size = b.size := by omega
          rw [e1, b1_two (k := k) (n := b.size) (by omega)]; omega
        · have h1 : c.toArray.size = 1 := by omega
          refine ⟨4, by rw [h1]; rfl, by decide, by decide, ?_⟩
          have e1 : min (3 * (k + 1)) b.size = b.size := by omega
          rw [e1, b1_one (k := k) (n := b.size) (by omega)]; omega
    obtain ⟨w, hw, hw0, hw1, hw2⟩ := hw
    refine item_statd (by kernel_rfl) dict_73 hw ?_
    walk_at "go"
    refine decode_w (by rw [Array.isEmpty_eq_false_iff]; intro e; rw [e] at c1; simp at c1; omega) (by omega) (by
        simp only [List.all_eq_true, decide_eq_true_eq]
        intro u hu; have := hdig u hu; omega) ?_
    walk_at "go"
    refine int_str hnum ?_
    walk_at "go"
    refine put_w hb' (by omega) (by omega) (by omega) fun ys hy => ?_
    walk_at "go"
    refine ⟨by walk_at "lk", by walk_at "lk", ys, ?_⟩
    rw [buf_buf hb.ne, hw2] at hy ⊢
    exact ⟨hy, rfl⟩
  · rintro ρ H' ⟨r1, r2, xs', hb', rfl⟩
    walk_at "go"
    have e : min (3 * (if (0 : Int) < (b.size : Int) then ((b.size : Int) - 0 - 1) / 3 + 1 else 0).toNat) b.size = b.size := by
      split <;> omega
    rw [e] at hb' ⊢
    exact q xs' hb'
end
section
variable {p : Params} {vs : List Value} {n : Nat} {H : Hp} {Q : V → Hp → Prop}
theorem box_w {k : Int} (h : 0 < k) (q : Q .none H) : OW ((run (K06 p vs) (n + 12)).call (.stat 225) [.int k] [] H) Q := by
  refine call_fn fi_225 en_225_1 (by kernel_rfl) ?_
  walk_at "go"
  exact q
theorem border_w {k : Int} (h : 0 ≤ k) (q : Q .none H) : OW ((run (K06 p vs) (n + 12)).call (.stat 232) [.int k] [] H) Q := by
  refine call_fn fi_232 en_232_1 (by kernel_rfl) ?_
  walk_at "go"
  exact q
theorem mask_none_w (q : Q .none H) : OW ((run (K06 p vs) (n + 12)).call (.stat 239) [.none] [] H) Q := by
  refine call_fn fi_239 en_239_1 (by kernel_rfl) ?_
  walk_at "go"
  exact q
theorem setver_none_w {i : Nat} {fs : List (Str × V)} (hi : H[i]? = some (.inst 392 fs)) (hl : fs.length < 900) (q : Q .none (H.set i (.inst 392 (putF nu_version .none fs)))) : OW ((run (K06 p vs) (n + 12)).call (.stat 270) [.ref i, .none] [] H) Q := by
  refine call_fn fi_270 en_270_2 (by kernel_rfl) ?_
  walk_at "go"
  exact q
theorem setver_w {i : Nat} {fs : List (Str × V)} {v : Int} (hi : H[i]? = some (.inst 392 fs)) (hl : fs.length < 900) (h1 : 1 ≤ v) (h2 : v ≤ 40) (q : Q .none (H.set i (.inst 392 (putF nu_version (.int v) fs)))) : OW ((run (K06 p vs) (n + 22)).call (.stat 270) [.ref i, .int v] [] H) Q := by
  refine call_fn fi_270 en_270_2 (by kernel_rfl) ?_
  walk_at "go"
  refine check_version_w h1 h2 ?_
  walk_at "go"
  exact q
theorem setmask_none_w {i : Nat} {fs : List (Str × V)} (hi : H[i]? = some (.inst 392 fs)) (hl : fs.length < 900) (q : Q .none (H.set i (.inst 392 (putF nu_mask_pattern .none fs)))) : OW ((run (K06 p vs) (n + 22)).call (.stat 287) [.ref i, .none] [] H) Q := by
  refine call_fn fi_287 en_287_2 (by kernel_rfl) ?_
  walk_at "go"
  refine mask_none_w ?_
  walk_at "go"
  exact q
theorem app_set {A B : Hp} {i : Nat} {x : O} (h : i < A.length) : A.set i x ++ B = (A ++ B).set i x := (List.set_append_left _ _ h).symm
/-- the fields of a code -/
abbrev cfs (ver : V) (dd mm dl : Nat) : List (Str × V) := [(nu_version, ver), (n_error_correction, .int 2), (n_box_size, .int 10), (n_border, .int 4), (nu_mask_pattern, .none), (n_image_factory, .none), (n_precomputed_qr_blanks, .ref dd), (n_modules, .ref mm), (n_modules_count, .int 0), (n_data_cache, .none), (n_data_list, .ref dl)]
theorem clear_w {i : Nat} {fs : List (Str × V)} (hi : H[i]? = some (.inst 392 fs)) (hl : fs.length < 800) (q : ∀ a b c, a = H.length → b = a + 1 → c = b + 1 → Q .none ((H ++ [O.list [], O.list [.ref a], O.list []]).set i (.inst 392 (putF n_data_list (.ref c) (putF n_data_cache .none (putF n_modules_count (.int 0) (putF n_modules (.ref b) fs))))))) : OW ((run (K06 p vs) (n + 22)).call (.stat 295) [.ref i] [] H) Q := by
  have hil := hp_lt hi
  refine call_fn fi_295 en_295_1 (by kernel_rfl) ?_
  walk_at "go"
  rename_i a ha b hb c hc
  have hA : ∀ B : Hp, i < (H ++ B).length := fun B => by rw [List.length_append]; omega
  simp only [List.length_append, List.length_set, List.length_cons, List.length_nil] at hb hc
  refine cast (congrArg (Q .none) ?_) (q a b c ha (by omega) (by omega))
  simp only [app_set hil, app_set (hA _), List.set_set, List.append_assoc, List.cons_append, List.nil_append]
theorem qrc_init_w {i : Nat} (hi : H[i]? = some (.inst 392 [])) (q : ∀ dd mm dl more, more.length = 4 → dl = H.length + 3 → more[3]? = some (.list []) → Q .none ((H ++ more).set i (.inst 392 (cfs .none dd mm dl)))) : OW ((run (K06 p vs) (n + 32)).call (.stat 254) [.ref i] [(n_error_correction, .int 2)] H) Q := by
  have hil := hp_lt hi
  refine call_fn fi_254 en_254_1_1 (by kernel_rfl) ?_
  walk_at "go"
  refine box_w (by decide) ?_
  walk_at "go"
  refine border_w (by decide) ?_
  walk_at "go"
  refine setver_none_w (by walk_at "hp") (by decide) ?_
  walk_at "go"
  refine setmask_none_w (by walk_at "hp") (by walk_at "len9") ?_
  walk_at "go"
  refine clear_w (by walk_at "hp") (by walk_at "len9") fun a b c ha hb hc => ?_
  walk_at "go"
  rename_i dd hdd
  simp only [List.length_append, List.length_set, List.length_cons, List.length_nil] at hdd ha
  have hA : ∀ B : Hp, i < (H ++ B).length := fun B => by rw [List.length_append]; omega
  refine cast (congrArg (Q .none) ?_) (q dd b c [O.dict [], O.list [], O.list [.ref a], O.list []] rfl (by omega) rfl)
  simp only [app_set hil, app_set (hA _), List.set_set, List.append_assoc, List.cons_append, List.nil_append]
  rfl
theorem qrc_new_w (q : ∀ i dd mm dl more, i = H.length → dl = H.length + 4 → more.length = 4 → more[3]? = some (.list []) → Q (.ref i) (H ++ (O.inst 392 (cfs .none dd mm dl) :: more))) : OW ((run (K06 p vs) (n + 33)).call (.stat 392) [] [(n_error_correction, .int 2)] H) Q := by
  refine call_new mk_392 fun i hi => ?_
  refine qrc_init_w (hp_new hi) fun dd mm dl more h1 h2 h3 => ⟨rfl, ?_⟩
  subst hi
  simp only [List.length_append, List.length_cons, List.length_nil] at h2
  have := q H.length dd mm dl more rfl h2 h1 h3
  rw [List.append_assoc, List.set_append_right _ _ (Nat.le_refl _), Nat.sub_self]
  exact this
theorem add_w {c dd mm dl d : Nat} {ver : V} {fs : List (Str × V)} {xs : List V} (hc : H[c]? = some (.inst 392 (cfs ver dd mm dl))) (hl : H[dl]? = some (.list xs)) (hd : H[d]? = some (.inst 160 fs)) (hne : c ≠ dl) (hs : xs.length < 1000) (q : Q .none (H.set dl (.list (xs ++ [.ref d])))) : OW ((run (K06 p vs) (n + 22)).call (.stat 303) [.ref c, .ref d] [] H) Q := by
  refine call_fn fi_303 en_303_2 (by kernel_rfl) ?_
  walk_at "go"
  refine cast (congrArg (Q .none) ?_) q
  exact (set_same (hp_set_ne (Ne.symm hne) hc)).symm
theorem ver_int_w {c : Nat} {v : Int} {dd mm dl : Nat} (hc : H[c]? = some (.inst 392 (cfs (.int v) dd mm dl))) (q : Q (.int v) H) : OW ((run (K06 p vs) (n + 12)).call (.stat 261) [.ref c] [] H) Q := by
  refine call_fn fi_261 en_261_1 (by kernel_rfl) ?_
  walk_at "go"
  exact q
end
section
variable {p : Params} {vs : List Value} {n : Nat} {H : Hp} {Q : V → Hp → Prop}
theorem dict_70 : dictOfV (K06 p vs) [] (.stat 70) = some [(1, V.int 10), (2, V.int 9), (4, V.int 8), (8, V.int 8)] := by kernel_rfl
theorem dict_71 : dictOfV (K06 p vs) [] (.stat 71) = some [(1, V.int 12), (2, V.int 11), (4, V.int 16), (8, V.int 10)] := by kernel_rfl
theorem tab_78 : listOf (K06 p vs) [] (.stat 78) = some [.stat 74, .stat 75, .stat 76, .stat 77] := by kernel_rfl
def roomsH : List Int := [0, 72, 128, 208, 288, 368, 480, 528, 688, 800, 976, 1120, 1264, 1440, 1576, 1784, 2024, 2264, 2504, 2728, 3080, 3248, 3536, 3712, 4112, 4304, 4768, 5024, 5288, 5608, 5960, 6344, 6760, 7208, 7688, 7888, 8432, 8768, 9136, 9776, 10208]
theorem row_76 : listOf (K06 p vs) [] (.stat 76) = some (roomsH.map .int) := by kernel_rfl
theorem ints_map (l : List Int) : intsOf (l.map .int) = some l := by
  induction l with
  | nil => rfl
  | cons x r ih => show (match intsOf (r.map .int) with | some l => some (x :: l) | none => none) = _; rw [ih]
/-- the parts of a code: modes and octets -/
abbrev Part := Int × Array UInt8
def cnt (s m : Int) : Int := if s < 10 then (if m = 1 then 10 else if m = 2 then 9 else 8) else (if m = 1 then 12 else if m = 2 then 11 else 16)
def one (s : Int) (d : Part) : Int := 4 + cnt s d.1 + bitsOf d.1 d.2.size
def tot (s : Int) (ds : List Part) : Int := (ds.map (one s)).sum
structure PartsAt (H : Hp) (ps : List Nat) (ds : List Part) : Prop where
  len : ps.length = ds.length
  at' : ∀ (k : Nat) (h : k < ds.length) (h' : k < ps.length), H[ps[k]]? = some (.inst 160 [(n_mode, .int ds[k].1), (n_data, .bytes ds[k].2)])
  ok : ∀ d ∈ ds, holdsMode d.1 d.2 ∧ d.2.size < 1000
theorem tot_take {s : Int} {ds : List Part} {k : Nat} (h : k < ds.length) : tot s (ds.take (k + 1)) = tot s (ds.take k) + one s ds[k] := by
  unfold tot
  rw [List.take_succ_eq_append_getElem h, List.map_append, List.sum_append]
  simp
theorem one_le {s : Int} {d : Part} (h : holdsMode d.1 d.2 ∧ d.2.size < 1000) : 0 ≤ one s d ∧ one s d < 12000 := by
  obtain ⟨⟨hm, _⟩, hs⟩ := h
  unfold one cnt bitsOf
  have h1 := b1_le (k := d.2.size)
  have h2 := b2_le (k := d.2.size)
  rcases hm with e | e | e <;> rw [e] <;> simp <;> split <;> omega
theorem tot_le {s : Int} : ∀ {ds : List Part}, (∀ d ∈ ds, holdsMode d.1 d.2 ∧ d.2.size < 1000) → 0 ≤ tot s ds ∧ tot s ds ≤ 12000 * (ds.length : Int)
  | [], _ => ⟨Int.le_refl _, by show (0 : Int) ≤ _; simp⟩
  | d :: r, h => by
    have h1 := one_le (s := s) (h d (List.mem_cons_self ..))
    have h2 := tot_le (s := s) (ds := r) fun e he => h e (List.mem_cons_of_mem _ he)
    have e : tot s (d :: r) = one s d + tot s r := by unfold tot; simp
    rw [e]
    simp only [List.length_cons]
    omega
theorem write_w {i j d : Nat} {l m : Int} {xs : List V} {b : Array UInt8} (hm : holdsMode m b) (hd : H[d]? = some (.inst 160 [(n_mode, .int m), (n_data, .bytes b)])) (hb : Buf H i j l xs) (hdi : d ≠ i) (hdj : d ≠ j) (hs : b.size < 1000) (hl : l < 100000)
  (q : ∀ xs' : List V, Buf (bufS H i j (l + bitsOf m b.size) xs') i j (l + bitsOf m b.size) xs' → Q .none (bufS H i j (l + bitsOf m b.size) xs')) :
  OW ((run (K06 p vs) (n + 34)).call (.stat 150) [.ref d, .ref i] [] H) Q := by
  obtain ⟨hm1, hm2⟩ := hm
  rcases hm1 with rfl | rfl | rfl
  · refine write1_w hd hb hdi hdj hs hl ?_ q
    unfold omode at hm2
    split at hm2
    · rename_i h
      unfold isDigits at h
      rw [Bool.and_eq_true] at h
      intro u hu
      have := List.all_eq_true.mp h.2 u hu
      simpa using this
    · split at hm2 <;> omega
  · exact write2_w hd hb hdi hdj hs hl q
  · exact write8_w hd hb hdi hdj hs hl q
def szS (s : Int) : Nat := if s < 10 then 70 else if s < 27 then 71 else 72
theorem sz_dict {s m : Int} (h : s < 27) (hm : m = 1 ∨ m = 2 ∨ m = 4) : ∃ D, dictOfV (K06 p vs) [] (.stat (szS s)) = some D ∧ findK m D = some (.int (cnt s m)) ∧ listOf (K06 p vs) [] (.stat (szS s)) = none := by
  unfold szS cnt
  by_cases h1 : s < 10
  · rw [if_pos h1, if_pos h1]
    refine ⟨_, dict_70, ?_, by kernel_rfl⟩
    rcases hm with rfl | rfl | rfl <;> rfl
  · rw [if_neg h1, if_pos h, if_neg h1]
    refine ⟨_, dict_71, ?_, by kernel_rfl⟩
    rcases hm with rfl | rfl | rfl <;> rfl
theorem is_70_70 : isV (K06 p vs) (.stat 70) (.stat 70) = some true := by kernel_rfl
theorem is_70_71 : isV (K06 p vs) (.stat 70) (.stat 71) = some false := by kernel_rfl
theorem is_71_71 : isV (K06 p vs) (.stat 71) (.stat 71) = some true := by kernel_rfl
theorem sz_same {s v : Int} (h : szS s = szS v) (h2 : s < 27) : cmpV (K06 p vs) H .IsNot (.stat (szS s)) (.stat (szS v)) = some false := by
  show (match isV (K06 p vs) (.stat (szS s)) (.stat (szS v)) with | some r => some (!r) | none => none) = _
  rw [← h]
  unfold szS
  by_cases h1 : s < 10
  · rw [if_pos h1, is_70_70]; rfl
  · rw [if_neg h1, if_pos h2, is_71_71]; rfl
theorem sz_other {s v : Int} (h : s < 10) (h1 : 10 ≤ v) (h2 : v < 27) : cmpV (K06 p vs) H .IsNot (.stat (szS s)) (.stat (szS v)) = some true := by
  show (match isV (K06 p vs) (.stat (szS s)) (.stat (szS v)) with | some r => some (!r) | none => none) = _
  unfold szS
  rw [if_pos h, if_neg (by omega), if_pos h2, is_70_71]; rfl
theorem mode_sizes_w' {v : Int} (q : Q (.stat (szS v)) H) : OW ((run (K06 p vs) (n + 12)).call (.stat 85) [.int v] [] H) Q := mode_sizes_w q
theorem cnt_range {s m : Int} : 0 ≤ cnt s m ∧ cnt s m ≤ 16 := by unfold cnt; split <;> split <;> first | decide | (split <;> decide)
theorem buf_new_w (q : ∀ i j, i = H.length → j = i + 1 → Q (.ref i) (H ++ [.inst 214 [(n_buffer, .ref j), (n_length, .int 0)], .list []])) : OW ((run (K06 p vs) (n + 13)).call (.stat 214) [] [] H) Q := by
  refine call_new mk_214 fun i hi => ?_
  refine buf_init_w (hp_new hi) fun j hj => ⟨rfl, ?_⟩
  rw [List.length_append, List.length_singleton, ← hi] at hj
  have := q i j hi hj
  subst hi
  rw [List.append_assoc, List.set_append_right _ _ (Nat.le_refl _), Nat.sub_self]
  exact this
/-- one pass of the fit, up to the search -/
theorem fit_gen_w {c dd mm dl : Nat} {ver st : V} {s : Int} {ps : List Nat} {ds : List Part} (hst : st = .int s ∨ (st = .none ∧ s = 1)) (h1 : 1 ≤ s) (h2 : s < 27) (hc : H[c]? = some (.inst 392 (cfs ver dd mm dl))) (hl : H[dl]? = some (.list (ps.map .ref))) (hp : PartsAt H ps ds) (hn : ds.length < 8) (hne : c ≠ dl)
  {v : Nat} (hv : bisectGo roomsH (tot s ds) 64 s.toNat 41 = some v) (hv2 : v ≤ 40) (hv1 : 1 ≤ v) {w : Nat} (hend : (szS s = szS v ∧ w = v) ∨ (s < 10 ∧ 10 ≤ v ∧ v < 27 ∧ 1 ≤ w ∧ w ≤ 40 ∧ ∀ (H1 : Hp) (Q1 : V → Hp → Prop), H1[c]? = some (.inst 392 (cfs (.int v) dd mm dl)) → H1[dl]? = some (.list (ps.map .ref)) → PartsAt H1 ps ds → (∀ more, Q1 (.int w) ((H1 ++ more).set c (.inst 392 (cfs (.int w) dd mm dl)))) → OW ((run (K06 p vs) (n + 68)).call (.stat 333) [.ref c] [(n_start, .int v)] H1) Q1))
  (q : ∀ more, Q (.int w) ((H ++ more).set c (.inst 392 (cfs (.int w) dd mm dl)))) :
  OW ((run (K06 p vs) (n + 72)).call (.stat 333) [.ref c] [(n_start, st)] H) Q := by
  have hcl := hp_lt hc
  have hll := hp_lt hl
  refine call_fn fi_333 en_333_1_1 (by kernel_rfl) ?_
  refine body_w rfl ?_
  refine cut_w (fun ρ' H' => H' = H ∧ ρ'.lookup n_self = some (.ref c) ∧ ρ'.lookup n_start = some (.int s)) ?_ ?_
  · refine if_w ?_
    rcases hst with rfl | ⟨rfl, rfl⟩
    · walk_at "go"
      exact ⟨rfl, rfl, by walk_at "lk", by walk_at "lk"⟩
    · walk_at "go"
      exact ⟨rfl, rfl, by walk_at "lk", by walk_at "lk"⟩
  · rintro ρ H' ⟨rfl, r1, r2⟩
    walk_at "go"
    refine check_version_w h1 (by omega) ?_
    walk_at "go"
    refine mode_sizes_w' ?_
    walk_at "go"
    refine buf_new_w fun i j hi hj => ?_
    walk_at "go"
    have hc0 := hp_app (B := [O.inst 214 [(n_buffer, .ref j), (n_length, .int 0)], O.list []]) hc
    have hl0 := hp_app (B := [O.inst 214 [(n_buffer, .ref j), (n_length, .int 0)], O.list []]) hl
    walk_at "go"
    refine it_list hl0 ?_
    have hij : i ≠ j := by omega
    have B0 : Buf (H' ++ [O.inst 214 [(n_buffer, .ref j), (n_length, .int 0)], O.list []]) i j 0 [] := by
      subst hi hj
      refine ⟨by simp, by simp, by omega, by omega, rfl, fun v hv => by cases hv⟩
    have hP0 : ∀ (k : Nat) (h : k < ds.length) (h' : k < ps.length), ps[k] < H'.length := fun k h h' => hp_lt (hp.at' k h h')
    have T := tot_le (s := s) (ds := ds) hp.ok
    generalize hH0 : H' ++ [O.inst 214 [(n_buffer, .ref j), (n_length, .int 0)], O.list []] = H0 at *
    refine for_lst (i := dl) (xs := ps.map .ref) (I := fun k ρ H2 => ρ.lookup n_self = some (.ref c) ∧ ρ.lookup n_start = some (.int s) ∧ ρ.lookup n_buffer = some (.ref i) ∧ ρ.lookup n_mode_sizes = some (.stat (szS s)) ∧ ∃ xs, Buf (bufS H0 i j (tot s (ds.take k)) xs) i j (tot s (ds.take k)) xs ∧ H2 = bufS H0 i j (tot s (ds.take k)) xs) ?_ ?_ ?_ LF 0 _ _ (Nat.zero_le _) ?_ ?_
    · rintro k ρ H2 ⟨_, _, _, _, xs, hb, rfl⟩
      rw [buf_other (by omega) (by omega)]; exact hl0
    · rintro k hk ρ H2 ⟨q1, q2, q3, q4, xs, hb, rfl⟩
      rw [List.length_map] at hk
      have hkd : k < ds.length := by have := hp.len; omega
      have hpk := hP0 k hkd hk
      have hat := hp.at' k hkd hk
      have hok := hp.ok _ (List.getElem_mem hkd)
      have htk := tot_le (s := s) (ds := ds.take k) fun d hd => hp.ok d (List.mem_of_mem_take hd)
      have hlk : (ds.take k).length ≤ 8 := by rw [List.length_take]; omega
      rw [List.getElem_map]
      have hdx : ∀ l xs, (bufS H0 i j l xs)[ps[k]]? = some (.inst 160 [(n_mode, .int ds[k].1), (n_data, .bytes ds[k].2)]) := fun l xs => by
        rw [buf_other (by omega) (by omega), ← hH0]; exact hp_app hat
      have hbi := hb.inst
      have hd0 := hdx (tot s (ds.take k)) xs
      have hcn := cnt_range (s := s) (m := ds[k].1)
      walk_at "go"
      refine put_w hb (by omega) (by omega) (by omega) fun ys hy => ?_
      rw [buf_buf hij] at hy ⊢
      have hbi1 := hy.inst
      have hd1 := hdx (tot s (ds.take k) + 4) ys
      walk_at "go"
      refine qrd_len_w hd1 (by omega) ?_
      refine ⟨_, rfl, by omega, by unfold big; omega, ?_⟩
      walk_at "go"
      obtain ⟨D, hD1, hD2, hD3⟩ := sz_dict (p := p) (vs := vs) h2 hok.1.1
      refine item_statd hD3 hD1 hD2 ?_
      walk_at "go"
      refine put_w hy (by omega) (by omega) (by omega) fun zs hz => ?_
      rw [buf_buf hij] at hz ⊢
      have hbi2 := hz.inst
      have hd2 := hdx (tot s (ds.take k) + 4 + cnt s ds[k].1) zs
      walk_at "go"
      refine write_w hok.1 hd2 hz (by omega) (by omega) (by omega) (by omega) fun ws hw => ?_
      rw [buf_buf hij] at hw ⊢
      walk_at "go"
      refine ⟨by walk_at "lk", by walk_at "lk", by walk_at "lk", by walk_at "lk", ws, ?_⟩
      have e : tot s (ds.take k) + 4 + cnt s ds[k].1 + bitsOf ds[k].1 ds[k].2.size = tot s (ds.take (k + 1)) := by
        rw [tot_take hkd]; unfold one; omega
      rw [e] at hw ⊢
      exact ⟨hw, rfl⟩
    · rintro ρ H2 ⟨q1, q2, q3, q4, xs, hb, rfl⟩
      have hln : (ps.map V.ref).length = ds.length := by rw [List.length_map]; exact hp.len
      rw [hln, List.take_length] at hb ⊢
      have hbi := hb.inst
      have hcx : (bufS H0 i j (tot s ds) xs)[c]? = some (.inst 392 (cfs ver dd mm dl)) := by rw [buf_other (by omega) (by omega)]; exact hc0
      walk_at "go"
      refine buf_len_w hb ?_
      refine ⟨_, rfl, by omega, by unfold big; omega, ?_⟩
      walk_at "go"
      refine item_stat tab_78 (by decide) (by decide) rfl ?_
      walk_at "go"
      refine bisect_w row_76 (ints_map _) (by omega) (by omega) (by decide) hv ?_
      walk_at "go"
      refine setver_w hcx (show 11 < 900 by decide) (by omega) (by omega) ?_
      have hcv : ((bufS H0 i j (tot s ds) xs).set c (.inst 392 (putF nu_version (.int v) (cfs ver dd mm dl))))[c]? = some (.inst 392 (cfs (.int v) dd mm dl)) := hp_set_self hcx
      walk_at "go"
      refine ver_int_w hcv ⟨rfl, ?_⟩
      walk_at "go"
      refine ver_int_w hcv ⟨rfl, ?_⟩
      walk_at "go"
      refine mode_sizes_w' ?_
      have e0 : ∀ xs : List V, bufS H0 i j (tot s ds) xs = H' ++ [O.inst 214 [(n_buffer, .ref j), (n_length, .int (tot s ds))], O.list xs] := fun xs => by
        rw [← hH0]; subst hi hj
        unfold bufS
        rw [List.set_append_right _ _ (by omega), List.set_append_right _ _ (Nat.le_refl _)]
        have : H'.length + 1 - H'.length = 1 := by omega
        rw [this, Nat.sub_self]; rfl
      rcases hend with ⟨hsame, rfl⟩ | ⟨hs1, hs2, hs3, hw1, hw2, hrec⟩
      · refine ⟨_, sz_same hsame h2, ?_⟩
        walk_at "go"
        refine ver_int_w hcv ⟨rfl, ?_⟩
        walk_at "go"
        refine cast (congrArg (Q (.int w)) ?_) (q [O.inst 214 [(n_buffer, .ref j), (n_length, .int (tot s ds))], O.list xs])
        rw [e0]; rfl
      · refine ⟨_, sz_other hs1 (by omega) (by omega), ?_⟩
        walk_at "go"
        refine ver_int_w hcv ⟨rfl, ?_⟩
        walk_at "go"
        refine hrec _ _ hcv ?_ ?_ fun more => ?_
        · rw [List.getElem?_set_ne hne, buf_other (by omega) (by omega)]; exact hl0
        · refine ⟨hp.len, fun k h h' => ?_, hp.ok⟩
          have hpk := hP0 k h h'
          have hat := hp.at' k h h'
          have hkc : c ≠ ps[k] := fun e => by rw [← e, hc] at hat; cases hat
          rw [List.getElem?_set_ne hkc, buf_other (by omega) (by omega), ← hH0]; exact hp_app hat
        · have hcw : (((bufS H0 i j (tot s ds) xs).set c (.inst 392 (putF nu_version (.int v) (cfs ver dd mm dl))) ++ more).set c (.inst 392 (cfs (.int w) dd mm dl)))[c]? = some (.inst 392 (cfs (.int w) dd mm dl)) := hp_set_self (hp_app hcv)
          walk_at "go"
          refine ver_int_w hcw ⟨rfl, ?_⟩
          walk_at "go"
          refine cast (congrArg (Q (.int w)) ?_) (q (O.inst 214 [(n_buffer, .ref j), (n_length, .int (tot s ds))] :: O.list xs :: more))
          rw [e0, app_set (by rw [List.length_append]; omega), List.set_set, List.append_assoc]
          rfl
    · rw [List.length_map]; have := hp.len; show _ < 100000; omega
    · refine ⟨by walk_at "lk", by walk_at "lk", by walk_at "lk", by walk_at "lk", [], ?_, ?_⟩
      · show Buf (bufS H0 i j 0 []) i j 0 []; rw [buf_same B0]; exact B0
      · show H0 = bufS H0 i j 0 []; rw [buf_same B0]
/-- a fit that ends in its first pass -/
theorem fit_one_w {c dd mm dl : Nat} {ver st : V} {s : Int} {ps : List Nat} {ds : List Part} (hst : st = .int s ∨ (st = .none ∧ s = 1)) (h1 : 1 ≤ s) (h2 : s < 27) (hc : H[c]? = some (.inst 392 (cfs ver dd mm dl))) (hl : H[dl]? = some (.list (ps.map .ref))) (hp : PartsAt H ps ds) (hn : ds.length < 8) (hne : c ≠ dl)
  {v : Nat} (hv : bisectGo roomsH (tot s ds) 64 s.toNat 41 = some v) (hv2 : v ≤ 40) (hv1 : 1 ≤ v) (hsame : szS s = szS v)
  (q : ∀ more, Q (.int v) ((H ++ more).set c (.inst 392 (cfs (.int v) dd mm dl)))) :
  OW ((run (K06 p vs) (n + 72)).call (.stat 333) [.ref c] [(n_start, st)] H) Q := fit_gen_w hst h1 h2 hc hl hp hn hne hv hv2 hv1 (.inl ⟨hsame, rfl⟩) q
/-- a fit that begins with the smaller counts and ends with the larger ones -/
theorem fit_two_w {c dd mm dl : Nat} {ver st : V} {s : Int} {ps : List Nat} {ds : List Part} (hst : st = .int s ∨ (st = .none ∧ s = 1)) (h1 : 1 ≤ s) (h2 : s < 10) (hc : H[c]? = some (.inst 392 (cfs ver dd mm dl))) (hl : H[dl]? = some (.list (ps.map .ref))) (hp : PartsAt H ps ds) (hn : ds.length < 8) (hne : c ≠ dl)
  {u v : Nat} (hu : bisectGo roomsH (tot s ds) 64 s.toNat 41 = some u) (hu1 : 10 ≤ u) (hu2 : u < 27) (hv : bisectGo roomsH (tot u ds) 64 u 41 = some v) (hv1 : u ≤ v) (hv2 : v < 27)
  (q : ∀ more, Q (.int v) ((H ++ more).set c (.inst 392 (cfs (.int v) dd mm dl)))) :
  OW ((run (K06 p vs) (n + 82)).call (.stat 333) [.ref c] [(n_start, st)] H) Q := by
  refine fit_gen_w (n := n + 10) (w := v) hst h1 (by omega) hc hl hp hn hne hu (by omega) (by omega) (.inr ⟨h2, hu1, hu2, by omega, by omega, fun H1 Q1 a1 a2 a3 a4 => ?_⟩) q
  refine fit_one_w (n := n + 6) (.inl rfl) (by omega) (by omega) a1 a2 a3 hn hne hv (by omega) (by omega) ?_ a4
  unfold szS
  have e1 : ¬ ((u : Int) < 10) := by omega
  have e2 : (u : Int) < 27 := by omega
  have e3 : ¬ ((v : Int) < 10) := by omega
  have e4 : (v : Int) < 27 := by omega
  rw [if_neg e1, if_pos e2, if_neg e3, if_pos e4]
end
section
variable {p : Params} {vs : List Value} {n : Nat} {H : Hp} {Q : V → Hp → Prop}
def roomsL : List Int := [72, 128, 208, 288, 368, 480, 528, 688, 800, 976, 1120, 1264]
theorem rooms_w (q : ∀ i, i = H.length → Q (.ref i) (H ++ [.list (roomsL.map .int)])) : OW ((run (K06 p vs) (n + 12)).call (.stat 403) [] [] H) Q := by
  refine call_fn fi_403 en_403_0 (by kernel_rfl) ?_
  walk_at "go"
  rename_i i hi
  exact q i hi
abbrev tupV (d : Part) : V := .tup [.int d.1, .bytes d.2]
theorem lbits_w {pl : Nat} {ver : Int} {ds : List Part} (hp : H[pl]? = some (.list (ds.map tupV))) (hd : ∀ d ∈ ds, holdsMode d.1 d.2 ∧ d.2.size < 1000) (hn : ds.length < 8) (q : ∀ more, Q (.int (tot ver ds)) (H ++ more)) : OW ((run (K06 p vs) (n + 22)).call (.stat 410) [.ref pl, .int ver] [] H) Q := by
  refine call_fn fi_410 en_410_2 (by kernel_rfl) ?_
  walk_at "go"
  refine it_list hp ?_
  refine for_lst (i := pl) (xs := ds.map tupV) (I := fun k ρ H2 => ρ.lookup n_version = some (.int ver) ∧ ρ.lookup n_bits = some (.int (tot ver (ds.take k))) ∧ ∃ more, H2 = H ++ more) ?_ ?_ ?_ LF 0 _ _ (Nat.zero_le _) ?_ ?_
  · rintro k ρ H2 ⟨_, _, more, rfl⟩
    exact hp_app hp
  · rintro k hk ρ H2 ⟨q1, q2, more, rfl⟩
    rw [List.length_map] at hk
    obtain ⟨⟨hm, _⟩, hsz⟩ := hd _ (List.getElem_mem hk)
    rw [List.getElem_map]
    have htk := tot_take (s := ver) hk
    generalize ds[k] = dk at *
    obtain ⟨m, b⟩ := dk
    dsimp only at hm hsz
    obtain ⟨w, hw, hw2⟩ : ∃ w : Int, [V.int 0, V.int 4, V.int 7][((b.size : Int) % 3).toNat]? = some (V.int w) ∧ b1 b.size = 10 * ((b.size : Int) / 3) + w := by
      have h3 : b.size % 3 = 0 ∨ b.size % 3 = 1 ∨ b.size % 3 = 2 := by omega
      unfold b1
      rcases h3 with h | h | h
      · refine ⟨0, ?_, by rw [h]; simp <;> omega⟩
        have : ((b.size : Int) % 3).toNat = 0 := by omega
        rw [this]; rfl
      · refine ⟨4, ?_, by rw [h]; simp <;> omega⟩
        have : ((b.size : Int) % 3).toNat = 1 := by omega
        rw [this]; rfl
      · refine ⟨7, ?_, by rw [h]; simp <;> omega⟩
        have : ((b.size : Int) % 3).toNat = 2 := by omega
        rw [this]; rfl
    by_cases h10 : ver < 10
    all_goals
      rcases hm with rfl | rfl | rfl
      · walk_at "go"
        refine ⟨by walk_at "lk", ?_, more ++ [_], (List.append_assoc _ _ _)⟩
        rw [htk]
        refine lk_upd_self.trans ?_
        unfold one cnt bitsOf
        simp only [h10, if_true, if_false]
        congr 2 <;> omega
      · walk_at "go"
        refine ⟨by walk_at "lk", ?_, more, rfl⟩
        rw [htk]
        refine lk_upd_self.trans ?_
        unfold one cnt bitsOf b2
        simp only [h10, if_true, if_false]
        congr 2 <;> simp <;> omega
      · walk_at "go"
        refine ⟨by walk_at "lk", ?_, more, rfl⟩
        rw [htk]
        refine lk_upd_self.trans ?_
        unfold one cnt bitsOf
        simp only [h10, if_true, if_false]
        congr 2 <;> simp <;> omega
  · rintro ρ H2 ⟨q1, q2, more, rfl⟩
    rw [List.length_map, List.take_length] at q2
    walk_at "go"
    exact q more
  · rw [List.length_map]; show _ < 100000; omega
  · exact ⟨by walk_at "lk", lk_upd_self, [], by simp⟩
end
section
variable {p : Params} {vs : List Value} {n : Nat} {H : Hp} {Q : V → Hp → Prop}
theorem two_of (ns : List Int) : ∃ f g : Int, cut (cut (ns.map V.int) none (some 2) ++ [V.int 0, V.int 0]) none (some 2) = [V.int f, V.int g] := by
  rw [cut_hi (by decide), cut_hi (by decide)]
  rcases ns with _ | ⟨a, _ | ⟨b, r⟩⟩
  · exact ⟨0, 0, rfl⟩
  · exact ⟨a, 0, rfl⟩
  · exact ⟨a, b, by simp⟩
theorem cut_len {α : Type} {xs : List α} {lo hi : Option Int} : (cut xs lo hi).length ≤ xs.length := by
  unfold cut
  rw [List.length_take, List.length_drop]; omega
theorem forget_w {K : Frag} {n : Nat} {sc : Scope} {rest : List Stmt} {X : Fl → Loc → Hp → Prop} {ρ : Loc} {H : Hp} (P : Loc → Hp → Prop) (h : P ρ H) (g : ∀ ρ H, P ρ H → XW ((run K n).ex sc ρ rest H) X) : XW ((run K n).ex sc ρ rest H) X := g ρ H h
def StOk (st : V) (s : Int) : Prop := (st = .int 10 ∧ s = 10) ∨ (st = .int 9 ∧ s = 9) ∨ (st = .none ∧ s = 1)
/-- the parts behind the rows of octets: none, or a few digits or signs -/
def TailOk (kd : Int) (tl : List Part) : Prop := (kd ≠ 2 ∧ tl = []) ∨ (kd = 2 ∧ ∃ m b, tl = [(m, b)] ∧ (m = 1 ∨ m = 2) ∧ omode b ≤ m ∧ 1 ≤ b.size ∧ b.size ≤ 9)
theorem dig_ok {c : Int} (h1 : 1 ≤ c) (h2 : c ≤ 9) : omode (cut ([56, 48, 52, 55, 51, 54, 50, 53, 49] : List UInt8).toArray.toList none (some c)).toArray ≤ 1 ∧ 1 ≤ (cut ([56, 48, 52, 55, 51, 54, 50, 53, 49] : List UInt8).toArray.toList none (some c)).toArray.size ∧ (cut ([56, 48, 52, 55, 51, 54, 50, 53, 49] : List UInt8).toArray.toList none (some c)).toArray.size ≤ 9 := by
  have : c = 1 ∨ c = 2 ∨ c = 3 ∨ c = 4 ∨ c = 5 ∨ c = 6 ∨ c = 7 ∨ c = 8 ∨ c = 9 := by omega
  rcases this with rfl | rfl | rfl | rfl | rfl | rfl | rfl | rfl | rfl <;> decide +kernel
theorem sign_ok {c : Int} (h1 : 1 ≤ c) (h2 : c ≤ 9) : omode (cut ([81, 36, 32, 52, 45, 90, 58, 48, 65] : List UInt8).toArray.toList none (some c)).toArray ≤ 2 ∧ 1 ≤ (cut ([81, 36, 32, 52, 45, 90, 58, 48, 65] : List UInt8).toArray.toList none (some c)).toArray.size ∧ (cut ([81, 36, 32, 52, 45, 90, 58, 48, 65] : List UInt8).toArray.toList none (some c)).toArray.size ≤ 9 := by
  have : c = 1 ∨ c = 2 ∨ c = 3 ∨ c = 4 ∨ c = 5 ∨ c = 6 ∨ c = 7 ∨ c = 8 ∨ c = 9 := by omega
  rcases this with rfl | rfl | rfl | rfl | rfl | rfl | rfl | rfl | rfl <;> decide +kernel
theorem tot_nil {s : Int} : tot s [] = 0 := rfl
theorem tot_cons {s : Int} {d : Part} {r : List Part} : tot s (d :: r) = one s d + tot s r := by unfold tot; simp
theorem tail_ok {kd : Int} {tl : List Part} (h : TailOk kd tl) : (0 ≤ tot 1 tl ∧ tot 1 tl ≤ 63 ∧ tot 10 tl = tot 1 tl + (if kd = 2 then 2 else 0)) ∧ tl.length ≤ 1 ∧ ∀ d ∈ tl, holdsMode d.1 d.2 ∧ d.2.size < 1000 := by
  rcases h with ⟨h1, rfl⟩ | ⟨h1, m, b, rfl, hm, ho, hs1, hs2⟩
  · rw [if_neg h1, tot_nil, tot_nil]
    exact ⟨by omega, by simp, fun d hd => by cases hd⟩
  · rw [if_pos h1, tot_cons, tot_cons, tot_nil, tot_nil]
    have hb2 : b2 b.size ≤ 50 ∧ 0 ≤ b2 b.size := by unfold b2; omega
    have hb1 : b1 b.size ≤ 30 ∧ 0 ≤ b1 b.size := by
      unfold b1; split
      · omega
      · split <;> omega
    refine ⟨?_, by simp, fun d hd => ?_⟩
    · unfold one cnt bitsOf
      rcases hm with rfl | rfl <;> simp <;> omega
    · rw [List.mem_singleton] at hd; subst hd
      exact ⟨⟨by rcases hm with e | e <;> simp [e], ho⟩, by dsimp only; omega⟩
theorem omode_le (b : Array UInt8) : omode b ≤ 4 := by unfold omode; split <;> (try split) <;> decide
theorem one4 {s : Int} {b : Array UInt8} : one s (4, b) = (if s < 10 then 12 else 20) + 8 * (b.size : Int) := by
  unfold one cnt bitsOf
  split <;> simp <;> omega
/-- what is asked of the parts of the law -/
structure DsOk (ds : List Part) : Prop where
  ok : ∀ d ∈ ds, holdsMode d.1 d.2 ∧ d.2.size < 1000
  len : ds.length ≤ 3
  lo : 937 ≤ tot 1 ds
  hi : tot 1 ds ≤ 991
  mlo : tot 1 ds + 8 ≤ tot 10 ds
  mhi : tot 10 ds ≤ tot 1 ds + 18
theorem set_last {A : Hp} {x y : O} : (A ++ [x]).set A.length y = A ++ [y] := by
  rw [List.set_append_right _ _ (Nat.le_refl _), Nat.sub_self]; rfl
theorem bytesOf_snoc : ∀ {xs : List V} {l : List UInt8} {u : Int}, bytesOf xs = some l → 0 ≤ u → u < 256 → ∃ l', bytesOf (xs ++ [.int u]) = some l' ∧ l'.length = l.length + 1
  | [], l, u, h, h0, h1 => by
    cases h
    refine ⟨[UInt8.ofNat u.toNat], ?_, rfl⟩
    show (if 0 ≤ u ∧ u < 256 then _ else none) = _
    rw [if_pos ⟨h0, h1⟩]; rfl
  | .int k :: r, l, u, h, h0, h1 => by
    unfold bytesOf at h
    split at h
    · rename_i hk
      split at h
      · rename_i l2 h2
        cases h
        obtain ⟨l', e1, e2⟩ := bytesOf_snoc h2 h0 h1
        refine ⟨UInt8.ofNat k.toNat :: l', ?_, by simp [e2]⟩
        show (if 0 ≤ k ∧ k < 256 then (match bytesOf (r ++ [V.int u]) with | some l => some (UInt8.ofNat k.toNat :: l) | none => none) else none) = _
        rw [if_pos hk, e1]
      · cases h
    · cases h
  | .none :: r, l, u, h, _, _ => by cases h
  | .bool _ :: r, l, u, h, _, _ => by cases h
  | .str _ :: r, l, u, h, _, _ => by cases h
  | .bytes _ :: r, l, u, h, _, _ => by cases h
  | .type _ :: r, l, u, h, _, _ => by cases h
  | .bi _ :: r, l, u, h, _, _ => by cases h
  | .ref _ :: r, l, u, h, _, _ => by cases h
  | .stat _ :: r, l, u, h, _, _ => by cases h
  | .tup _ :: r, l, u, h, _, _ => by cases h
  | .rng _ _ _ :: r, l, u, h, _, _ => by cases h
  | .slc _ _ :: r, l, u, h, _, _ => by cases h
  | .rvs :: r, l, u, h, _, _ => by cases h
  | .own _ _ :: r, l, u, h, _, _ => by cases h
  | .lam _ _ _ :: r, l, u, h, _, _ => by cases h

/-- the versions that hold the parts, k turns from s on -/
def sel (s : Int) (ds : List Part) : Nat → List V
  | 0 => []
  | k + 1 => sel s ds k ++ (if tot (s + k) ds ≤ roomsL.getD (s + k - 1).toNat 0 then [V.int (s + k)] else [])
def dueOf (ds : List Part) : Int := if tot 10 ds ≤ 976 then 10 else 11
theorem cnt_lo {s m : Int} (h : s < 10) : cnt s m = cnt 1 m := by unfold cnt; simp only [h, show (1 : Int) < 10 from by decide, if_true]
theorem cnt_hi {s m : Int} (h : 10 ≤ s) : cnt s m = cnt 10 m := by
  have h' : ¬ s < 10 := by omega
  unfold cnt; simp only [h', show ¬ ((10 : Int) < 10) from by decide, if_false]
theorem tot_lo {s : Int} {ds : List Part} (h : s < 10) : tot s ds = tot 1 ds := by
  unfold tot; congr 1; refine List.map_congr_left fun d _ => ?_; unfold one; rw [cnt_lo h]
theorem tot_hi {s : Int} {ds : List Part} (h : 10 ≤ s) : tot s ds = tot 10 ds := by
  unfold tot; congr 1; refine List.map_congr_left fun d _ => ?_; unfold one; rw [cnt_hi h]
theorem sel_none {s : Int} {ds : List Part} (h0 : 1 ≤ s) (hd : DsOk ds) : ∀ k : Nat, s + k ≤ dueOf ds → sel s ds k = []
  | 0, _ => rfl
  | k + 1, h => by
    unfold sel
    rw [sel_none h0 hd k (by omega), List.nil_append]
    rw [if_neg]
    have := hd.lo
    have := hd.mlo
    unfold dueOf at h
    by_cases h10 : s + k < 10
    · rw [tot_lo h10]
      have hk : (s + k - 1).toNat < 9 := by omega
      have : ∀ i < 9, roomsL.getD i 0 ≤ 800 := by decide
      have := this _ hk
      omega
    · rw [tot_hi (by omega)]
      have hk : (s + k - 1).toNat = 9 := by split at h <;> omega
      rw [hk]
      split at h
      · omega
      · show ¬ (_ ≤ (976 : Int)); omega
theorem sel_some {s : Int} {ds : List Part} (h0 : 1 ≤ s) (h1 : s ≤ 10) (hd : DsOk ds) : ∀ k : Nat, dueOf ds < s + k → ∃ r, sel s ds k = V.int (dueOf ds) :: r
  | 0, h => by unfold dueOf at h; split at h <;> omega
  | k + 1, h => by
    by_cases hk : dueOf ds < s + k
    · obtain ⟨r, e⟩ := sel_some h0 h1 hd k hk
      unfold sel; rw [e]; exact ⟨_, rfl⟩
    · have he : s + k = dueOf ds := by omega
      unfold sel
      rw [sel_none h0 hd k (by omega), List.nil_append, he]
      have := hd.hi
      have := hd.mhi
      rw [if_pos]
      · exact ⟨_, rfl⟩
      · unfold dueOf
        split
        · rw [show ((10 : Int) - 1).toNat = 9 from rfl]; show _ ≤ (976 : Int); omega
        · rw [show ((11 : Int) - 1).toNat = 10 from rfl, tot_hi (by decide)]; show _ ≤ (1120 : Int); omega
theorem drop_w {K : Frag} {n : Nat} {sc : Scope} {ρ : Loc} {H : Hp} {X : Fl → Loc → Hp → Prop} {b : List Stmt} {s : Stmt} {r : List Stmt} (h : b = s :: r) (q : XW ((run K (n + 1)).ex sc ρ (s :: r) H) X) : XW ((run K (n + 1)).ex sc ρ b H) X := by rw [h]; exact q
theorem bis_1 : ∀ d : Fin 60, bisectGo roomsH (935 + (d.val : Int)) 64 1 41 = some (if 935 + (d.val : Int) ≤ 976 then 10 else 11) := by decide +kernel
theorem bis_9 : ∀ d : Fin 60, bisectGo roomsH (935 + (d.val : Int)) 64 9 41 = some (if 935 + (d.val : Int) ≤ 976 then 10 else 11) := by decide +kernel
theorem bis_10 : ∀ d : Fin 90, bisectGo roomsH (935 + (d.val : Int)) 64 10 41 = some (if 935 + (d.val : Int) ≤ 976 then 10 else 11) := by decide +kernel
theorem bis_11 : ∀ d : Fin 90, bisectGo roomsH (935 + (d.val : Int)) 64 11 41 = some 11 := by decide +kernel
theorem bis_of {lo : Nat} {m : Nat} {F : Int → Nat} (h : ∀ d : Fin m, bisectGo roomsH (935 + (d.val : Int)) 64 lo 41 = some (F (935 + (d.val : Int)))) {x : Int} (h0 : 935 ≤ x) (h1 : x < 935 + m) : bisectGo roomsH x 64 lo 41 = some (F x) := by
  have := h ⟨(x - 935).toNat, by omega⟩
  have e : 935 + (((x - 935).toNat : Nat) : Int) = x := by omega
  dsimp only at this
  rw [e] at this; exact this
def dueN (ds : List Part) : Nat := if tot 10 ds ≤ 976 then 10 else 11
theorem due_n (ds : List Part) : dueOf ds = (dueN ds : Int) := by unfold dueOf dueN; split <;> rfl
/-- the fit tells what is due -/
theorem fit_due_w {c dd mm dl : Nat} {ver st : V} {s : Int} {ps : List Nat} {ds : List Part} (hst : StOk st s) (hds : DsOk ds) (hc : H[c]? = some (.inst 392 (cfs ver dd mm dl))) (hl : H[dl]? = some (.list (ps.map .ref))) (hp : PartsAt H ps ds) (hne : c ≠ dl)
  (q : ∀ more, Q (.int (dueN ds)) ((H ++ more).set c (.inst 392 (cfs (.int (dueN ds)) dd mm dl)))) :
  OW ((run (K06 p vs) (n + 82)).call (.stat 333) [.ref c] [(n_start, st)] H) Q := by
  have h1 := hds.lo
  have h2 := hds.hi
  have h3 := hds.mlo
  have h4 := hds.mhi
  have h5 := hds.len
  have hdn : dueN ds = 10 ∨ dueN ds = 11 := by unfold dueN; split <;> simp
  rcases hst with ⟨rfl, rfl⟩ | ⟨rfl, rfl⟩ | ⟨rfl, rfl⟩
  · refine fit_one_w (n := n + 10) (.inl rfl) (by decide) (by decide) hc hl hp (by omega) hne (v := dueN ds) ?_ (by omega) (by omega) ?_ q
    · exact bis_of (F := fun x => if x ≤ 976 then 10 else 11) bis_10 (by omega) (by omega)
    · rcases hdn with e | e <;> rw [e] <;> rfl
  · have hu := bis_of (x := tot 9 ds) (F := fun x => if x ≤ 976 then 10 else 11) bis_9 (by rw [tot_lo (by decide)]; omega) (by rw [tot_lo (by decide)]; omega)
    have e9 : tot 9 ds = tot 1 ds := tot_lo (by decide)
    by_cases hx : tot 9 ds ≤ 976
    · rw [if_pos hx] at hu
      exact fit_two_w (.inl rfl) (by decide) (by decide) hc hl hp (by omega) hne hu (by decide) (by decide) (bis_of (F := fun x => if x ≤ 976 then 10 else 11) bis_10 (by show 935 ≤ tot 10 ds; omega) (by show tot 10 ds < _; omega)) (by show 10 ≤ dueN ds; omega) (by show dueN ds < 27; omega) q
    · rw [if_neg hx] at hu
      have e : dueN ds = 11 := by unfold dueN; rw [if_neg (by omega)]
      rw [e] at q
      exact fit_two_w (.inl rfl) (by decide) (by decide) hc hl hp (by omega) hne hu (by decide) (by decide) (bis_of (F := fun _ => 11) bis_11 (by rw [tot_hi (by decide)]; omega) (by rw [tot_hi (by decide)]; omega)) (by decide) (by decide) q
  · have hu := bis_of (x := tot 1 ds) (F := fun x => if x ≤ 976 then 10 else 11) bis_1 (by omega) (by omega)
    by_cases hx : tot 1 ds ≤ 976
    · rw [if_pos hx] at hu
      exact fit_two_w (.inr ⟨rfl, rfl⟩) (by decide) (by decide) hc hl hp (by omega) hne hu (by decide) (by decide) (bis_of (F := fun x => if x ≤ 976 then 10 else 11) bis_10 (by show 935 ≤ tot 10 ds; omega) (by show tot 10 ds < _; omega)) (by show 10 ≤ dueN ds; omega) (by show dueN ds < 27; omega) q
    · rw [if_neg hx] at hu
      have e : dueN ds = 11 := by unfold dueN; rw [if_neg (by omega)]
      rw [e] at q
      exact fit_two_w (.inr ⟨rfl, rfl⟩) (by decide) (by decide) hc hl hp (by omega) hne hu (by decide) (by decide) (bis_of (F := fun _ => 11) bis_11 (by rw [tot_hi (by decide)]; omega) (by rw [tot_hi (by decide)]; omega)) (by decide) (by decide) q
theorem law_end_w {c dd mm dl pl : Nat} {st : V} {s : Int} {ds : List Part} {ps : List Nat} {ρ : Loc} (hst : StOk st s) (hds : DsOk ds) (hpc : pl ≠ c) (hcd : c ≠ dl) (hpd : pl ≠ dl) (hP : PartsAt H ps ds) (p1 : ρ.lookup n_start = some st) (p2 : ρ.lookup n_parts = some (.ref pl)) (p3 : ρ.lookup n_code = some (.ref c)) (p4 : H[pl]? = some (.list (ds.map tupV))) (p5 : H[c]? = some (.inst 392 (cfs .none dd mm dl))) (p6 : H[dl]? = some (.list (ps.map .ref))) :
  XW ((run (K06 p vs) (n + 131)).ex (scOf (hd.zo_388 p)) ρ ((bdOf (hd.zo_388 p)).drop 10) H) (retQ fun v _ => v = .bool true) := by
  refine drop_w rfl ?_
  walk_at "go0"
  have hs0 : 1 ≤ s ∧ s ≤ 10 := by rcases hst with ⟨_, e⟩ | ⟨_, e⟩ | ⟨_, e⟩ <;> omega
  refine ev_comp (comp_w rfl (compOk_of (fr := [n_parts]) (by kernel_rfl) ?_) ?_)
  · intro x hx
    rw [List.mem_singleton] at hx; subst hx
    rw [nameL_cell (by kernel_rfl) p2]; rfl
  walk_at "go0"
  refine OW.mono (Q := fun v H' => v = .int s ∧ H' = H) ?_ ?_
  · refine bool_or ?_
    rcases hst with ⟨rfl, rfl⟩ | ⟨rfl, rfl⟩ | ⟨rfl, rfl⟩
    · walk_at "go0"
      exact ⟨rfl, rfl⟩
    · walk_at "go0"
      exact ⟨rfl, rfl⟩
    · walk_at "go0"
      refine bool_one ?_
      walk_at "go0"
      exact ⟨rfl, rfl⟩
  rintro _ _ ⟨rfl, rfl⟩
  walk_at "go0"
  refine it_rng1 (by omega) (by omega) ?_ (by omega)
  rename_i H
  have hplt := hp_lt p4
  have hlen := hds.len
  refine for_up (I := fun k ρ3 H3 => (∀ a, a < H.length → H3[a]? = H[a]?) ∧ H3[H.length]? = some (.list (sel s ds k))) (by omega) ⟨fun a ha => List.getElem?_append_left ha, hp_new rfl⟩ ?_ ?_
  · rintro k ρ3 H3 hk ⟨i1, i2⟩
    have hp4 : H3[pl]? = some (.list (ds.map tupV)) := by rw [i1 _ hplt]; exact p4
    have hsel : ∀ k, (sel s ds k).length ≤ k := fun k => by
      induction k with
      | zero => exact Nat.le_refl _
      | succ k ih => unfold sel; rw [List.length_append]; split <;> simp <;> omega
    have hsk := hsel k
    obtain ⟨r, hr⟩ : ∃ r, r = roomsL.getD (s + k - 1).toNat 0 := ⟨_, rfl⟩
    have hri : (roomsL.map V.int)[(s + (k : Int) * 1 - 1).toNat]? = some (V.int r) := by
      have e : (s + (k : Int) * 1 - 1).toNat = (s + k - 1).toNat := by omega
      have hlt : (s + (k : Int) - 1).toNat < roomsL.length := by show _ < 12; omega
      rw [e, List.getElem?_map, hr, List.getD_eq_getElem?_getD, List.getElem?_eq_getElem hlt]; rfl
    refine comp_turn_if ?_
    walk_at "go0"
    refine lbits_w hp4 hds.ok (by omega) fun more => ?_
    walk_at "go0"
    refine rooms_w fun ir hir => ?_
    walk_at "go0"
    refine item_list (hp_new hir) (by decide) (by omega) hri ?_
    walk_at "go0"
    have hHl := hp_lt i2
    have hall : ∀ a, a < H.length → (H3 ++ more ++ [O.list (roomsL.map V.int)])[a]? = H[a]? := fun a ha => by
      rw [List.append_assoc, List.getElem?_append_left (by omega)]; exact i1 a ha
    have hnew : (H3 ++ more ++ [O.list (roomsL.map V.int)])[H.length]? = some (.list (sel s ds k)) := hp_app (hp_app i2)
    have e1 : s + (k : Int) * 1 = s + k := by omega
    rw [e1]
    walk_at "br"
    · rename_i hle
      walk_at "go0"
      refine ⟨_, hnew, by unfold maxL; omega, fun a ha => ?_, ?_⟩
      · rw [List.getElem?_set_ne (by omega)]; exact hall a ha
      · rw [hp_set_self hnew]
        conv => rhs; unfold sel
        rw [← hr, if_pos hle]
    · rename_i hle
      refine ⟨hall, ?_⟩
      rw [hnew]
      conv => rhs; unfold sel
      rw [← hr, if_neg hle, List.append_nil]
  · rintro ρ3 H3 ⟨i1, i2⟩
    refine ⟨rfl, ?_⟩
    have hdue : dueOf ds = 10 ∨ dueOf ds = 11 := by unfold dueOf; split <;> simp
    obtain ⟨rr, hsel⟩ := sel_some hs0.1 hs0.2 hds (13 - s).toNat (by omega)
    have hsl : (sel s ds (13 - s).toNat).length < 2 ^ 24 := by
      have : ∀ k, (sel s ds k).length ≤ k := fun k => by
        induction k with
        | zero => exact Nat.le_refl _
        | succ k ih => unfold sel; rw [List.length_append]; split <;> simp <;> omega
      have := this (13 - s).toNat
      omega
    have hc3 : H3[c]? = some (.inst 392 (cfs .none dd mm dl)) := by rw [i1 _ (hp_lt p5)]; exact p5
    have hd3 : H3[dl]? = some (.list (ps.map .ref)) := by rw [i1 _ (hp_lt p6)]; exact p6
    have hp3 : H3[pl]? = some (.list (ds.map tupV)) := by rw [i1 _ hplt]; exact p4
    have hP3 : PartsAt H3 ps ds := ⟨hP.len, fun k h h' => by rw [i1 _ (hp_lt (hP.at' k h h'))]; exact hP.at' k h h', hP.ok⟩
    walk_at "go0"
    refine item_list i2 hsl (by decide) (v := .int (dueOf ds)) (by rw [hsel]; rfl) ?_
    rw [due_n]
    walk_at "go0"
    refine fit_due_w hst hds hc3 hd3 hP3 hcd fun more => ?_
    have hc6 : ((H3 ++ more).set c (.inst 392 (cfs (.int (dueN ds)) dd mm dl)))[c]? = some (.inst 392 (cfs (.int (dueN ds)) dd mm dl)) := hp_set_self (hp_app hc3)
    have hd6 : ((H3 ++ more).set c (.inst 392 (cfs (.int (dueN ds)) dd mm dl)))[dl]? = some (.list (ps.map .ref)) := hp_set_ne hcd (hp_app hd3)
    have hp6 : ((H3 ++ more).set c (.inst 392 (cfs (.int (dueN ds)) dd mm dl)))[pl]? = some (.list (ds.map tupV)) := hp_set_ne (Ne.symm hpc) (hp_app hp3)
    have hP6 : ∀ (k : Nat) (h : k < ds.length) (h' : k < ps.length), ((H3 ++ more).set c (.inst 392 (cfs (.int (dueN ds)) dd mm dl)))[ps[k]]? = some (.inst 160 [(n_mode, .int ds[k].1), (n_data, .bytes ds[k].2)]) := fun k h h' => by
      have hat := hP3.at' k h h'
      have hkc : c ≠ ps[k] := fun e => by rw [← e, hc3] at hat; cases hat
      exact hp_set_ne hkc (hp_app hat)
    generalize (H3 ++ more).set c (.inst 392 (cfs (.int (dueN ds)) dd mm dl)) = H6 at *
    walk_at "go0"
    refine ver_int_w hc6 ⟨rfl, ?_⟩
    walk_at "go0"
    refine ev_comp (comp_w rfl (compOk_of (fr := []) (by kernel_rfl) (fun x hx => by cases hx)) ?_)
    walk_at "go0"
    refine it_list hd6 ?_
    have hlps := hP.len
    refine for_lst (i := dl) (xs := ps.map .ref) (I := fun k ρ7 H7 => (∀ a, a < H6.length → H7[a]? = H6[a]?) ∧ H7[H6.length]? = some (.list ((ds.take k).map tupV))) ?_ ?_ ?_ LF 0 _ _ (Nat.zero_le _) ?_ ?_
    · rintro k ρ7 H7 ⟨j1, j2⟩
      rw [j1 _ (hp_lt hd6)]; exact hd6
    · rintro k hk ρ7 H7 ⟨j1, j2⟩
      rw [List.length_map] at hk
      have hkd : k < ds.length := by omega
      have hat : H7[ps[k]]? = some (.inst 160 [(n_mode, .int ds[k].1), (n_data, .bytes ds[k].2)]) := by
        have := hP6 k hkd hk
        rw [j1 _ (hp_lt this)]; exact this
      rw [List.getElem_map]
      refine comp_turn ?_
      walk_at "go0"
      have hl7 : ((ds.take k).map tupV).length ≤ 3 := by rw [List.length_map, List.length_take]; omega
      refine ⟨_, j2, Nat.le_trans hl7 (by decide), fun a ha => ?_, ?_⟩
      · rw [List.getElem?_set_ne (by omega)]; exact j1 a ha
      · rw [hp_set_self j2, List.take_succ_eq_append_getElem hkd, List.map_append]; rfl
    · rintro ρ7 H7 ⟨j1, j2⟩
      have e : (ps.map V.ref).length = ds.length := by rw [List.length_map]; exact hlps
      rw [e, List.take_length] at j2
      refine ⟨rfl, ?_⟩
      have hp7 : H7[pl]? = some (.list (ds.map tupV)) := by rw [j1 _ (hp_lt hp6)]; exact hp6
      walk_at "go0"
      refine ⟨true, ?_, rfl⟩
      have hsame : seqEq (eqV (K06 p vs) H7 3) (ds.map tupV) (ds.map tupV) = some true := by
        refine seqEq_same fun x hx => ?_
        obtain ⟨d, _, rfl⟩ := List.mem_map.mp hx
        show allEq (eqV (K06 p vs) H7 2) [.int d.1, .bytes d.2] [.int d.1, .bytes d.2] = _
        refine allEq_same fun y hy => ?_
        simp only [List.mem_cons, List.not_mem_nil, or_false] at hy
        rcases hy with rfl | rfl
        · rw [eqV_int, beq_self_eq_true]
        · rw [eqV_bytes, beq_self_eq_true]
      show allEq (eqV (K06 p vs) H7 4) [.int (dueN ds), .int (dueN ds), .ref H6.length] [.int (dueN ds), .int (dueN ds), .ref pl] = _
      simp only [allEq, eqV_int, beq_self_eq_true, eqV_lists j2 hp7, hsame]
      rfl
    · rw [List.length_map]; show _ < 100000; omega
    · exact ⟨fun a ha => List.getElem?_append_left ha, hp_new rfl⟩
end
section
variable {p : Params} {vs : List Value} {n : Nat} {H : Hp} {Q : V → Hp → Prop}
theorem law_w {ns : List Int} (hn : ns.length ≤ 63) (hl : listOf (K06 p vs) [] (.stat 416) = some (ns.map .int)) : OW ((run (K06 p vs) (n + 132)).call (.stat 415) [.stat 416] [] H) fun v _ => v = .bool true := by
  obtain ⟨f, g, hfg⟩ := two_of ns
  refine call_fn fi_415 en_415_1 (by kernel_rfl) ?_
  walk_at "go"
  have hsz : (ns.map V.int).length ≤ 63 := by rw [List.length_map]; exact hn
  have hc1 := cut_len (xs := ns.map V.int) (lo := none) (hi := some 2)
  refine item_slice_stat hl (by unfold maxL; omega) ?_
  refine newL_w (by unfold maxL; omega) fun i1 e1 => ?_
  walk_at "go"
  rename_i i2 e2
  refine bin_lists (i := i1) (by walk_at "hp") (by walk_at "hp") ?_
  have hc2 : (cut (ns.map V.int) none (some 2) ++ [V.int 0, V.int 0]).length ≤ 65 := by rw [List.length_append]; show _ + 2 ≤ 65; omega
  refine newL_w (Nat.le_trans hc2 (by decide)) fun i3 e3 => ?_
  walk_at "go"
  rw [hfg]
  walk_at "go"
  rename_i i4 e4
  refine asg_tuple rfl (unpack_list (by walk_at "hp") rfl) ?_
  walk_at "go"
  refine forget_w (fun ρ _ => ρ.lookup n_first = some (.int f) ∧ ρ.lookup n_second = some (.int g)) ⟨by walk_at "lk", by walk_at "lk"⟩ ?_
  clear e1 i1 e2 i2 e3 i3 e4 i4
  rintro ρ H ⟨r1, r2⟩
  refine st_swap (names := [n_kind, n_start]) rfl (by kernel_rfl) (OW.mono (Q := fun v H' => H' = H ∧ ∃ st s, v = .tup [.int (f / 8 % 3), st] ∧ StOk st s) ?_ ?_)
  · walk_at "go"
    walk_at "br"
    · walk_at "go"
      exact ⟨rfl, _, 10, rfl, .inl ⟨rfl, rfl⟩⟩
    · walk_at "go"
      walk_at "br"
      · walk_at "go"
        exact ⟨rfl, _, 9, rfl, .inr (.inl ⟨rfl, rfl⟩)⟩
      · walk_at "go"
        exact ⟨rfl, _, 1, rfl, .inr (.inr ⟨rfl, rfl⟩)⟩
  rintro v H' ⟨rfl, st, s, rfl, hst⟩
  refine ⟨_, _, rfl, rfl, rfl, ?_⟩
  have hkd : f / 8 % 3 = 0 ∨ f / 8 % 3 = 1 ∨ f / 8 % 3 = 2 := by omega
  generalize f / 8 % 3 = kd at *
  walk_at "go0"
  rename_i t et
  refine cut_w (fun ρ' H2 => ρ'.lookup n_second = some (.int g) ∧ ρ'.lookup n_kind = some (.int kd) ∧ ρ'.lookup n_start = some st ∧ ∃ t tl, ρ'.lookup n_tail = some (.ref t) ∧ H2[t]? = some (.list (tl.map tupV)) ∧ TailOk kd tl) ?_ ?_
  · refine if_w ?_
    walk_at "go"
    walk_at "br"
    · rename_i hk2
      have hc0 : 1 ≤ 1 + g / 96 % 9 ∧ 1 + g / 96 % 9 ≤ 9 := by omega
      walk_at "go"
      walk_at "br"
      · walk_at "go"
        rename_i t' et'
        exact ⟨rfl, by walk_at "lk", by walk_at "lk", by walk_at "lk", t', [(1, _)], by walk_at "lk", by walk_at "hp", .inr ⟨hk2, 1, _, rfl, .inl rfl, dig_ok hc0.1 hc0.2⟩⟩
      · walk_at "go"
        rename_i t' et'
        exact ⟨rfl, by walk_at "lk", by walk_at "lk", by walk_at "lk", t', [(2, _)], by walk_at "lk", by walk_at "hp", .inr ⟨hk2, 2, _, rfl, .inr rfl, sign_ok hc0.1 hc0.2⟩⟩
    · rename_i hk2
      walk_at "go"
      exact ⟨rfl, by walk_at "lk", by walk_at "lk", by walk_at "lk", t, [], by walk_at "lk", by walk_at "hp", .inl ⟨hk2, rfl⟩⟩
  · rintro ρ2 H2 ⟨q1, q2, q3, t, tl, q4, ht, htl⟩
    obtain ⟨⟨hT0, hT1, hT2⟩, htlen, htok⟩ := tail_ok htl
    walk_at "go"
    refine lbits_w ht htok (by omega) fun more => ?_
    walk_at "go0"
    refine OW.mono (Q := fun v H' => H' = H2 ++ more ∧ v = .int (if kd = 0 then 12 else 24)) ?_ ?_
    · walk_at "go"
      walk_at "br"
      · walk_at "go"
        rename_i h0
        rw [if_pos h0]; exact ⟨rfl, rfl⟩
      · walk_at "go"
        rename_i h0
        rw [if_neg h0]; exact ⟨rfl, rfl⟩
    rintro _ _ ⟨rfl, rfl⟩
    walk_at "go"
    obtain ⟨room, hroom⟩ : ∃ room, room = 944 + g % 48 - tot 1 tl - (if kd = 0 then 12 else 24) := ⟨_, rfl⟩
    rw [← hroom]
    have hr0 : 850 ≤ room ∧ room ≤ 1000 := by split at hroom <;> omega
    refine ev_comp (comp_w rfl (compOk_of (fr := [n_second]) (by kernel_rfl) ?_) ?_)
    · intro x hx
      rw [List.mem_singleton] at hx; subst hx
      rw [nameL_cell (by kernel_rfl) (by walk_at "lk")]; rfl
    walk_at "go"
    refine it_rng1 (by omega) (by omega) ?_ (by omega)
    refine for_up (I := fun k ρ H3 => ∃ xs l, H3 = (H2 ++ more) ++ [O.list xs] ∧ bytesOf xs = some l ∧ l.length = k ∧ xs.length = k) (by omega) ⟨[], [], rfl, rfl, rfl, rfl⟩ ?_ ?_
    · rintro k ρ3 H3 hk ⟨xs, l, rfl, hb, hlk, hxk⟩
      refine comp_turn ?_
      walk_at "go"
      refine ⟨xs, hp_new rfl, by unfold maxL; omega, ?_⟩
      obtain ⟨l', hl1, hl2⟩ := bytesOf_snoc (u := (g + 89 * (0 + (k : Int) * 1)) % 256) hb (by omega) (by omega)
      exact ⟨_, l', set_last, hl1, by omega, by rw [List.length_append]; simp; omega⟩
    · rintro ρ3 H3 ⟨xs, l, rfl, hb, hlk, hxk⟩
      refine ⟨rfl, ?_⟩
      walk_at "go"
      refine bytes_w (hp_new rfl) (by unfold maxL; omega) hb ?_
      have hls : l.toArray.size = (room / 8 - 0).toNat := by rw [List.size_toArray]; exact hlk
      generalize l.toArray = oct at *
      walk_at "go0"
      refine OW.mono (Q := fun v H' => ∃ pl ds, v = .ref pl ∧ H'[pl]? = some (.list (ds.map tupV)) ∧ DsOk ds) ?_ ?_
      · have hcut : 1 ≤ 1 + g / 864 % 100 ∧ 1 + g / 864 % 100 ≤ 100 := by omega
        generalize 1 + g / 864 % 100 = ct at *
        walk_at "go"
        walk_at "br"
        · rename_i h0
          rw [if_pos h0] at hroom
          have htl0 : tl = [] := by
            rcases htl with ⟨_, e⟩ | ⟨e, _⟩
            · exact e
            · omega
          subst htl0
          rw [tot_nil] at hroom
          walk_at "go"
          rename_i pl epl
          refine ⟨pl, [(4, oct)], rfl, by walk_at "hp", ?_, by simp, ?_, ?_, ?_, ?_⟩
          · intro d hd
            rw [List.mem_singleton] at hd; subst hd
            exact ⟨⟨.inr (.inr rfl), omode_le _⟩, by dsimp only; omega⟩
          all_goals (simp only [tot_cons, tot_nil, one4]; simp; omega)
        · rename_i h0
          rw [if_neg h0] at hroom
          have s1 := size_cut_hi (b := oct) (hi := ct) (by omega)
          have s2 := size_cut_lo (b := oct) (lo := ct) (by omega)
          walk_at "go"
          rename_i pj epj
          generalize (cut oct.toList none (some ct)).toArray = o1 at *
          generalize (cut oct.toList (some ct) none).toArray = o2 at *
          refine bin_lists (i := pj) (by walk_at "hp") (by walk_at "hp") ?_
          refine newL_w (by rw [List.length_append, List.length_map]; show 2 + _ ≤ 1000000; omega) fun pl epl => ?_
          refine ⟨pl, (4, o1) :: (4, o2) :: tl, rfl, hp_new epl, ?_, ?_, ?_, ?_, ?_, ?_⟩
          · intro d hd
            rcases List.mem_cons.mp hd with rfl | hd
            · exact ⟨⟨.inr (.inr rfl), omode_le _⟩, by dsimp only; omega⟩
            · rcases List.mem_cons.mp hd with rfl | hd
              · exact ⟨⟨.inr (.inr rfl), omode_le _⟩, by dsimp only; omega⟩
              · exact htok d hd
          · simp only [List.length_cons]; omega
          all_goals (simp only [tot_cons, one4]; simp; (try split at hT2) <;> omega)
      rintro _ H4 ⟨pl, ds, rfl, hpl, hds⟩
      walk_at "go0"
      refine qrc_new_w fun c dd mm dl more4 ec edl hm4 hm3 => ?_
      walk_at "go0"
      refine forget_w (fun ρ H5 => ρ.lookup n_start = some st ∧ ρ.lookup n_parts = some (.ref pl) ∧ ρ.lookup n_code = some (.ref c) ∧ H5[pl]? = some (.list (ds.map tupV)) ∧ H5[c]? = some (.inst 392 (cfs .none dd mm dl)) ∧ H5[dl]? = some (.list [])) ⟨by walk_at "lk", by walk_at "lk", by walk_at "lk", hp_app hpl, ?_, ?_⟩ ?_
      · subst ec; rw [List.getElem?_append_right (Nat.le_refl _), Nat.sub_self]; rfl
      · subst edl; rw [List.getElem?_append_right (by omega)]
        have : H4.length + 4 - H4.length = 3 + 1 := by omega
        rw [this, List.getElem?_cons_succ]; exact hm3
      have hcd : c ≠ dl := by omega
      have hpd : pl ≠ dl := by have := hp_lt hpl; omega
      have hpc : pl ≠ c := by have := hp_lt hpl; omega
      rintro ρ5 H5 ⟨p1, p2, p3, p4, p5, p6⟩
      walk_at "go"
      refine it_list p4 ?_
      refine for_lst (i := pl) (xs := ds.map tupV) (I := fun k ρ H6 => ρ.lookup n_start = some st ∧ ρ.lookup n_parts = some (.ref pl) ∧ ρ.lookup n_code = some (.ref c) ∧ H6[pl]? = some (.list (ds.map tupV)) ∧ H6[c]? = some (.inst 392 (cfs .none dd mm dl)) ∧ ∃ ps, H6[dl]? = some (.list (ps.map .ref)) ∧ PartsAt H6 ps (ds.take k)) ?_ ?_ ?_ LF 0 _ _ (Nat.zero_le _) ?_ ?_
      · rintro k ρ6 H6 ⟨_, _, _, h, _⟩; exact h
      · rintro k hk ρ6 H6 ⟨p1, p2, p3, p4, p5, ps, p6, hP⟩
        rw [List.length_map] at hk
        have hok := hds.ok _ (List.getElem_mem hk)
        have htake : ds.take (k + 1) = ds.take k ++ [ds[k]] := by rw [List.take_succ_eq_append_getElem hk]
        rw [List.getElem_map]
        generalize ds[k] = dk at *
        obtain ⟨m, b⟩ := dk
        walk_at "go"
        refine qrd_new_w hok.1 fun d ed => ?_
        walk_at "go"
        refine add_w (hp_app p5) (hp_app p6) (hp_new ed) hcd ?_ ?_
        · have h1 := hP.len
          have h2 : (ds.take k).length ≤ k := by rw [List.length_take]; omega
          have h3 := hds.len
          rw [List.length_map]; omega
        walk_at "go"
        have hdd : d ≠ dl := by have := hp_lt p6; omega
        refine ⟨by walk_at "lk", by walk_at "lk", by walk_at "lk", hp_set_ne (Ne.symm hpd) (hp_app p4), hp_set_ne (Ne.symm hcd) (hp_app p5), ps ++ [d], ?_, ?_⟩
        · rw [List.map_append]; exact hp_set_self (hp_app p6)
        · rw [htake]
          have hl := hP.len
          refine ⟨by rw [List.length_append, List.length_append, hl]; rfl, fun j h1 h2 => ?_, fun e he => ?_⟩
          · rcases Nat.lt_or_ge j ps.length with hj | hj
            · have hne : dl ≠ ps[j] := fun e => by
                have := hP.at' j (by omega) hj
                rw [← e, p6] at this; cases this
              rw [List.getElem_append_left hj, hp_set_ne hne (hp_app (hP.at' j (by omega) hj)), List.getElem_append_left (by omega)]
            · have hj2 : j = ps.length := by rw [List.length_append] at h2; simp at h2; omega
              subst hj2
              rw [List.getElem_append_right (Nat.le_refl _), List.getElem_append_right (by omega)]
              simp only [hl, Nat.sub_self, List.getElem_cons_zero]
              exact hp_set_ne (Ne.symm hdd) (hp_new ed)
          · rcases List.mem_append.mp he with h | h
            · exact hP.ok e h
            · rw [List.mem_singleton] at h; subst h; exact hok
      · rintro ρ6 H6 ⟨p1, p2, p3, p4, p5, ps, p6, hP⟩
        rw [List.length_map, List.take_length] at hP
        exact then_next (law_end_w hst hds hpc hcd hpd hP p1 p2 p3 p4 p5 p6)
      · rw [List.length_map]; have := hds.len; show _ < 100000; omega
      · exact ⟨p1, p2, p3, p4, p5, [], p6, rfl, fun k h => by simp at h, fun d h => by simp at h⟩
end
theorem mapO_ints {K : Frag} : ∀ {vs : List Value} {ns : List Int}, IntsAre vs ns → mapO (ofVal K OV) vs = some (ns.map .int)
  | _, _, .nil => rfl
  | _, _, .cons n t h => by
    unfold mapO
    rw [mapO_ints h]; rfl
theorem script_06 {p : Params} {vs : List Value} {ns : List Int} (h : IntsAre vs ns) : listOf (K06 p vs) [] (.stat 416) = some (ns.map .int) := by
  have h1 : (plainF (hd.heap_388 p)).lookup 416 = none := by kernel_rfl
  have h2 : (K06 p vs).lookup 416 = some (scriptObj vs) := lookup_snoc h1
  unfold listOf
  dsimp only
  rw [h2]
  show (match asLst (scriptObj vs) with | some xs => mapO (ofVal (K06 p vs) OV) xs | none => none) = _
  have h3 : asLst (scriptObj vs) = some vs := by
    unfold asLst scriptObj
    rfl
  rw [h3]; exact mapO_ints h
theorem law06 (p : Params) : LawAt (hd.heap_388 p) 415 416 := by
  intro ns vs hn hi
  obtain ⟨v, H', e, rfl⟩ := law_w (p := p) (vs := vs) (n := 18) (H := []) hn (script_06 hi)
  exact ⟨H', e⟩
end Mini
theorem PySem.Challenge.cw_bm0038_06_holds : PySem.Challenge.rw_bm0038_06.Holds :=
  Mini.head06 Mini.law06
