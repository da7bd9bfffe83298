import PyProof.Rows.All
import Wide.All
import OpenK.AllK
import Wide.FinOn
import PySem.Challenge.RW_bm0028_01
set_option Elab.async false
set_option maxRecDepth 100000
set_option linter.unusedVariables false
set_option autoImplicit false
set_option linter.unusedSimpArgs false
set_option maxHeartbeats 8000000
namespace Csp
open PySem PySem.W PyProof.Rows
open_top hd for PySem.Challenge.rw_bm0028_01
end Csp
namespace Csp
open PySem PySem.W PySem.Calls PyProof.Rows

/-- abstract values: tokens are dropped -/
inductive AV where
  | none | bool (b : Bool) | int (i : Int) | ref (a : Addr) | other (v : Value)

def ab : Value → AV
  | .none => .none
  | .bool b => .bool b
  | .int i _ => .int i
  | .ref a => .ref a
  | v => .other v

theorem ab_none {v : Value} (h : ab v = .none) : v = .none := by cases v <;> simp_all [ab]
theorem ab_bool {v : Value} {b : Bool} (h : ab v = .bool b) : v = .bool b := by cases v <;> simp_all [ab]
theorem ab_int {v : Value} {i : Int} (h : ab v = .int i) : ∃ t, v = .int i t := by cases v <;> simp_all [ab]
theorem ab_ref {v : Value} {a : Addr} (h : ab v = .ref a) : v = .ref a := by cases v <;> simp_all [ab]

/-- abstract objects -/
inductive AO where
  | list (xs : List AV) | rol (xs : List Int) | tuple (xs : List AV) | dict (es : List (Int × AV)) (ep : Nat)
  | inst0 (C : Addr) | inst (C dx : Addr) | dom0 (C : Addr) (xs : List AV) | dom (C dx : Addr) (xs : List AV) | ns (es : List (String × AV))
  | range (lo hi : Int) | dvals (d : Addr)

def AO.isRo : AO → Bool
  | .rol _ => true
  | _ => false

abbrev Hp := Addr → Option AO
def upd (H : Hp) (a : Addr) (x : AO) : Hp := fun b => if b = a then some x else H b
@[simp] theorem upd_self (H : Hp) (a : Addr) (x : AO) : upd H a x a = some x := by simp [upd]
theorem upd_ne {H : Hp} {a b : Addr} {x : AO} (h : b ≠ a) : upd H a x b = H b := by simp [upd, h]
theorem upd_id {H : Hp} {a : Addr} {x : AO} (h : H a = some x) : upd H a x = H := by
  funext b; by_cases e : b = a <;> simp [upd, e, h]
theorem upd_upd {H : Hp} {a : Addr} {x y : AO} : upd (upd H a x) a y = upd H a y := by
  funext b; by_cases e : b = a <;> simp [upd, e]

theorem noRo {x : AO} {P : Prop} (h : x.isRo = false) (q : x.isRo = true) : P := by rw [h] at q; cases q
def big : Nat := 1000000
def listO (items : Array Value) (n : Nat) : Obj := { cls := .type "list", data := .seq items n }
def tupO (items : Array Value) (n : Nat) : Obj := { cls := .type "tuple", data := .seq items n }

/-- what is known of the heap: objects that nothing owned may change, the state of the world, and the one list that is read only -/
structure FF where
  k : Addr → Option Obj
  os : OsState × Nat
  sa : Addr
def IsSeqObj (o : Obj) : Prop := ∃ items n, o.data = .seq items n

def abl (items : Array Value) : List AV := items.toList.map ab

inductive NsOk : List DictEntry → List (String × AV) → Prop
  | nil : NsOk [] []
  | cons {e r n v l t} : e.key = .str (Str.ofString n) t → ab e.val = v → NsOk r l → NsOk (e :: r) ((n, v) :: l)

section
variable (prog : Program) (w : World)

def Ok (o : Obj) : AO → Prop
  | .list xs => ∃ items n, o = listO items n ∧ abl items = xs ∧ items.size ≤ big
  | .rol xs => ∃ (items : Array Value) (n : Nat), o.cls = .type "list" ∧ o.data = .seq items n ∧ abl items = xs.map AV.int ∧ items.size ≤ big
  | .tuple xs => ∃ items n, o = tupO items n ∧ abl items = xs ∧ items.size ≤ big
  | .dict es ep => ∃ (kvs : List (Int × Value)) (ents : Array DictEntry), o.ExactDict ∧ o.data = .dict ents ep ∧ KeysOf (intKind prog w) ents ∧ Pairs (intKind prog w) ents.toList kvs ∧ (kvs.map (·.1)).Nodup ∧
      kvs.map (fun p => (p.1, ab p.2)) = es ∧ kvs.length ≤ big
  | .inst0 C => ∃ sl, o = ⟨.ref C, none, .plain, sl⟩
  | .inst C dx => ∃ sl, o = ⟨.ref C, some dx, .plain, sl⟩
  | .dom0 C xs => ∃ items n sl, o = ⟨.ref C, none, .seq items n, sl⟩ ∧ abl items = xs ∧ items.size ≤ big
  | .dom C dx xs => ∃ items n sl, o = ⟨.ref C, some dx, .seq items n, sl⟩ ∧ abl items = xs ∧ items.size ≤ big
  | .ns es => ∃ ents n, o = dictOf ents n ∧ NsOk ents es ∧ ents.length ≤ 100
  | .range lo hi => ∃ t u v, o = { cls := .type "range", dict := none, data := .fields #[.int lo t, .int hi u, .int 1 v], slots := #[] } ∧ Builtin.Range.small lo hi 1 = true
  | .dvals d => o.cls = .type "dict_values" ∧ o.data = .fields #[.ref d]

/-- an object as it was, or, for a frame's namespace, one with the same entries -/
def Lo (n : Nat) (o o' : Obj) : Prop := o' = o ∨ (o.cls = .type "frame" ∧ o.dict = some n ∧ o'.data = o.data)

structure St (F : FF) (H : Hp) (s : Shared) : Prop where
  keep : ∀ a o, F.k a = some o → ∃ o', s.heap.get? a = some o' ∧ Lo F.os.2 o o'
  own : ∀ a x, H a = some x → ∃ o, s.heap.get? a = some o ∧ Ok prog w o x ∧ (x.isRo = true → F.k a = some o ∧ a = F.sa) ∧ (x.isRo = false → F.k a = none ∧ 1 < a)
  top : (F.k 347).isSome = true
  sa : ∃ o, F.k F.sa = some o ∧ IsSeqObj o
  gens : AllBare s.gens
  os : s.os = F.os.1

variable {prog w}
variable {F : FF} {H : Hp} {s : Shared}

theorem St.get (S : St prog w F H s) {a : Addr} {x : AO} (h : H a = some x) : ∃ o, s.heap.get? a = some o ∧ Ok prog w o x := by
  obtain ⟨o, h1, h2, _⟩ := S.own a x h; exact ⟨o, h1, h2⟩
theorem St.lt (S : St prog w F H s) {a : Addr} {x : AO} (h : H a = some x) : a < s.heap.objs.size := by
  obtain ⟨o, h1, _⟩ := S.own a x h; exact Heap.lt_size h1
theorem Lo.data {n : Nat} {o o' : Obj} (h : Lo n o o') : o'.data = o.data := by
  rcases h with rfl | ⟨_, _, h⟩
  · rfl
  · exact h
theorem St.keepX (S : St prog w F H s) {a : Addr} {o : Obj} (h : F.k a = some o) (hd : o.cls ≠ .type "frame") : s.heap.get? a = some o := by
  obtain ⟨o', h1, h2⟩ := S.keep a o h
  rcases h2 with rfl | ⟨h3, _⟩
  · exact h1
  · exact absurd h3 hd
theorem St.keepD (S : St prog w F H s) {a : Addr} {o : Obj} (h : F.k a = some o) : ∃ o', s.heap.get? a = some o' ∧ o'.data = o.data := by
  obtain ⟨o', h1, h2⟩ := S.keep a o h
  exact ⟨o', h1, h2.data⟩
theorem St.ltF (S : St prog w F H s) {a : Addr} {o : Obj} (h : F.k a = some o) : a < s.heap.objs.size := by
  obtain ⟨o', h1, _⟩ := S.keep a o h
  exact Heap.lt_size h1
theorem St.size (S : St prog w F H s) : 347 < s.heap.objs.size := by
  obtain ⟨o, e⟩ := Option.isSome_iff_exists.mp S.top
  exact S.ltF e
/-- an address that a new object may have -/
def Fresh (H : Hp) (a : Addr) : Prop := H a = none ∧ a ≠ 347
theorem St.fresh0 (S : St prog w F H s) : H s.heap.objs.size = none := by
  cases e : H s.heap.objs.size with
  | none => rfl
  | some x => exact absurd (S.lt e) (Nat.lt_irrefl _)
theorem St.freshH (S : St prog w F H s) : Fresh H s.heap.objs.size := ⟨S.fresh0, Nat.ne_of_gt S.size⟩
theorem St.freshF (S : St prog w F H s) : F.k s.heap.objs.size = none := by
  cases e : F.k s.heap.objs.size with
  | none => rfl
  | some x => exact absurd (S.ltF e) (Nat.lt_irrefl _)

/-- the heap may grow or change outside what is known -/
theorem St.ext (S : St prog w F H s) {h' : Heap} (hk : ∀ b o, (F.k b).isSome = true ∨ (H b).isSome = true → s.heap.get? b = some o → h'.get? b = some o) (t : Nat) :
    St prog w F H { s with heap := h', toks := t } :=
  ⟨fun a o e => let ⟨o', h1, h2⟩ := S.keep a o e; ⟨o', hk a o' (.inl (by rw [e]; rfl)) h1, h2⟩, fun a x e => by
    obtain ⟨o, h1, h2⟩ := S.own a x e
    exact ⟨o, hk a o (.inr (by rw [e]; rfl)) h1, h2⟩, S.top, S.sa, S.gens, S.os⟩
theorem St.toks (S : St prog w F H s) (t : Nat) : St prog w F H { s with toks := t } := S.ext (fun _ _ _ e => e) t
theorem St.push (S : St prog w F H s) (o : Obj) : St prog w F H { s with heap := s.heap.push o } := S.ext (fun _ _ _ e => Heap.get?_push_of_some _ e) s.toks
theorem St.keeps (S : St prog w F H s) {h' : Heap} (hk : ∀ b o, s.heap.get? b = some o → h'.get? b = some o) (t : Nat) : St prog w F H { s with heap := h', toks := t } := S.ext (fun b o _ e => hk b o e) t
theorem St.extBut (S : St prog w F H s) {h' : Heap} {a : Addr} (hs : Heap.ExtBut a s.heap h') (hF : F.k a = none) (hH : H a = none) (t : Nat) : St prog w F H { s with heap := h', toks := t } :=
  S.ext (fun b o q e => hs b o (by rintro rfl; rw [hF, hH] at q; simp at q) e) t
theorem St.weaken (S : St prog w F H s) {F' : FF} {H' : Hp} (hF : ∀ a o, F'.k a = some o → F.k a = some o) (ho : F'.os = F.os) (hs : F'.sa = F.sa) (ht : (F'.k 347).isSome = true) (hsa : ∃ o, F'.k F'.sa = some o ∧ IsSeqObj o)
    (hH : ∀ a x, H' a = some x → H a = some x) : St prog w F' H' s :=
  ⟨fun a o e => by rw [ho]; exact S.keep a o (hF a o e), fun a x e => by
    obtain ⟨o, h1, h2, h3, h4⟩ := S.own a x (hH a x e)
    refine ⟨o, h1, h2, fun q => ?_, fun q => ⟨?_, (h4 q).2⟩⟩
    · obtain ⟨k1, k2⟩ := h3 q
      obtain ⟨o', k3, _⟩ := hsa
      refine ⟨?_, k2.trans hs.symm⟩
      rw [hs, ← k2] at k3
      have := hF a o' k3
      rw [k1] at this
      rw [k3, Option.some.inj this]
    · cases z : F'.k a with
      | none => rfl
      | some o' => rw [hF a o' z] at h4; exact absurd (h4 q).1 (by simp), ht, hsa, S.gens, S.os.trans (congrArg Prod.fst ho.symm)⟩
/-- back to what was known -/
theorem St.back {H₀ : Hp} {s₀ : Shared} {F' : FF} {H' : Hp} {s' : Shared} (S' : St prog w F' H' s') (S : St prog w F H₀ s₀) (hF : ∀ a o, F.k a = some o → F'.k a = some o) (ho : F'.os = F.os) (hs : F'.sa = F.sa) : St prog w F H' s' :=
  S'.weaken hF ho.symm hs.symm S.top S.sa fun _ _ e => e
/-- a new object -/
theorem St.new (S : St prog w F H s) {h' : Heap} {a : Addr} {o : Obj} {x : AO} (ha : s.heap.objs.size ≤ a) (hs : ∀ b o, s.heap.get? b = some o → h'.get? b = some o) (ho : h'.get? a = some o) (hx : Ok prog w o x) (hr : x.isRo = false) (t : Nat) :
    St prog w F (upd H a x) { s with heap := h', toks := t } :=
  ⟨fun b o e => let ⟨o', h1, h2⟩ := S.keep b o e; ⟨o', hs b o' h1, h2⟩, fun b y e => by
    by_cases hb : b = a
    · subst hb
      rw [upd_self] at e; cases e
      refine ⟨o, ho, hx, noRo hr, fun _ => ⟨?_, Nat.lt_of_lt_of_le (Nat.lt_trans (by decide : 1 < 347) S.size) ha⟩⟩
      cases z : F.k b with
      | none => rfl
      | some o' => exact absurd (S.ltF z) (Nat.not_lt.mpr ha)
    · rw [upd_ne hb] at e
      obtain ⟨o, h1, h2⟩ := S.own b y e
      exact ⟨o, hs _ _ h1, h2⟩, S.top, S.sa, S.gens, S.os⟩
theorem St.alloc (S : St prog w F H s) {o : Obj} {x : AO} (hx : Ok prog w o x) (hf : o.isFreed = false) (hr : x.isRo = false) : St prog w F (upd H s.heap.objs.size x) { s with heap := s.heap.push o } :=
  S.new (Nat.le_refl _) (fun _ _ e => Heap.get?_push_of_some _ e) (Heap.get?_push_size _ hf) hx hr s.toks
/-- an owned object changed -/
theorem St.set (S : St prog w F H s) {h' : Heap} {a : Addr} {o : Obj} {x y : AO} (hx : H a = some x) (hr : x.isRo = false) (hs : Heap.ExtBut a s.heap h') (ho : h'.get? a = some o) (hy : Ok prog w o y) (hry : y.isRo = false) (t : Nat) :
    St prog w F (upd H a y) { s with heap := h', toks := t } := by
  obtain ⟨o₀, _, _, _, h4⟩ := S.own a x hx
  obtain ⟨hF, h1a⟩ := h4 hr
  refine ⟨fun b o e => let ⟨o', h1, h2⟩ := S.keep b o e; ⟨o', hs b o' (by rintro rfl; rw [hF] at e; cases e) h1, h2⟩, fun b z e => ?_, S.top, S.sa, S.gens, S.os⟩
  by_cases hb : b = a
  · subst hb
    rw [upd_self] at e; cases e
    exact ⟨o, ho, hy, noRo hry, fun _ => ⟨hF, h1a⟩⟩
  · rw [upd_ne hb] at e
    obtain ⟨o, h1, h2⟩ := S.own b z e
    exact ⟨o, hs _ _ hb h1, h2⟩
end

/-- the weakest precondition over abstract heaps; no exception leaves -/
def TX {α : Type} (prog : Program) (w : World) (A : Around) (F : FF) (t : Sem α) (Q : α → Hp → Prop) (H : Hp) : Prop :=
  ∀ s, St prog w F H s → wpAny (model prog w) A t (fun a s' => ∃ H', St prog w F H' s' ∧ Q a H') (fun _ _ => False) s

section
variable {α β : Type} {prog : Program} {w : World} {fs : List Env} {A : Around} {F : FF} {H : Hp}
theorem TX.pure {a : α} {Q : α → Hp → Prop} (h : Q a H) : TX prog w A F (Pure.pure a) Q H := fun s S => wpAny_pure ⟨H, S, h⟩
theorem TX.bind {m : Sem α} {f : α → Sem β} {Q : β → Hp → Prop} (h : TX prog w A F m (fun a H' => TX prog w A F (f a) Q H') H) : TX prog w A F (m >>= f) Q H :=
  fun s S => wpAny_bind (wpAny_mono (h s S) (fun a s' ⟨H', S', h'⟩ => h' s' S') fun _ _ e => e)
theorem TX.mono {m : Sem α} {Q Q' : α → Hp → Prop} (h : TX prog w A F m Q H) (hq : ∀ a H', Q a H' → Q' a H') : TX prog w A F m Q' H :=
  fun s S => wpAny_mono (h s S) (fun a s' ⟨H', S', h'⟩ => ⟨H', S', hq a H' h'⟩) fun _ _ e => e
theorem TX.rule {tag : String} {Q : Unit → Hp → Prop} (h : Q () H) : TX prog w A F (rule tag) Q H := fun s S => wpAny_rule ⟨H, S, h⟩
theorem TX.standAt {p : Pos} {Q : Unit → Hp → Prop} (h : Q () H) : TX prog w A F (standAt p) Q H := fun s S => wpAny_standAt ⟨H, S, h⟩
theorem TX.holding {vs : List Value} {m : Sem α} {Q : α → Hp → Prop} (h : TX prog w A F m Q H) : TX prog w A F (holding vs m) Q H := fun s S => wpAny_holding (h s S)
theorem TX.release {vs ks : List Value} {Q : Unit → Hp → Prop} (h : Q () H) : TX prog w A F (release vs ks) Q H := fun s S => wpAny_release ⟨H, S, h⟩
theorem TX.operate {vs : List Value} {m : Sem Value} {Q : Value → Hp → Prop} (h : TX prog w A F m Q H) : TX prog w A F (operate vs m) Q H :=
  TX.bind (TX.holding (TX.mono h fun r H' q => TX.bind (TX.release (TX.pure q))))
theorem TX.point {Q : Unit → Hp → Prop} (h : Q () H) : TX prog w A F point Q H := fun s S => wpAny_point ⟨H, S, h⟩
theorem TX.mkInt {i : Int} {Q : Value → Hp → Prop} (h : ∀ t, Q (.int i t) H) : TX prog w A F (mkInt i) Q H := fun s S => wpAny_mkInt ⟨H, S.toks _, h _⟩
/-- from a rule of the library that keeps the heap and gives one value -/
theorem TX.of_keep {m : Sem α} {Q : α → Hp → Prop} (h : ∀ s, St prog w F H s → wpAny (model prog w) A m (fun a s' => s'.heap = s.heap ∧ s'.gens = s.gens ∧ s'.os = s.os ∧ Q a H) (fun _ _ => False) s) : TX prog w A F m Q H :=
  fun s S => wpAny_mono (h s S) (fun a s' ⟨h1, h2, h3, h4⟩ => ⟨H, ⟨by rw [h1]; exact S.keep, by rw [h1]; exact S.own, S.top, S.sa, by rw [h2]; exact S.gens, by rw [h3]; exact S.os⟩, h4⟩) fun _ _ e => e
end
end Csp

namespace Csp
open PySem PySem.W PySem.Calls PyProof.Rows

abbrev PT (α : Type) := (α → Hp → Prop) → Hp → Prop
abbrev Loc := String → Option AV
def upL (m : Loc) (x : String) (v : AV) : Loc := fun y => if y = x then some v else m y

inductive Bi where
  | len | lenset | list | isLT | isCon | range | range2

mutual
inductive E where
  | loc (x : String) | lit (v : AV)
  | attr (e : E) (n : String)
  | idx (e i : E) | full (e : E) | tail (e i : E)
  | bin (op : Operator) (a b : E) | neg (a : E) | not (a : E)
  | and2 (a b : E) | or2 (a b : E) | cmp (op : CmpOp) (a b : E) | ite (c a b : E)
  | list (es : EL) | tup (es : EL) | dict0 | dict1 (k v : E)
  | call (f : E) (es : EL) | meth (o : E) (n : String) (es : EL) | bi (b : Bi) (es : EL)
  | comp (elt : E) (x : String) (it : E) (ifs : EL)
  | comp2 (elt : E) (x : String) (it : E) (y : String) (it2 : E) (c : E)
inductive EL where
  | nil | cons (e : E) (es : EL)
end

mutual
inductive S where
  | expr (e : E) | assign (x : String) (e : E) | assignT (xs : List String) (e : E) | assignAttr (o : E) (n : String) (e : E) | assignIdx (o i e : E)
  | aug (x : String) (op : Operator) (e : E) | ret (e : E)
  | ife (c : E) (a b : SL) | for1 (xs : List String) (it : E) (body orelse : SL)
  | whl (c : E) (body orelse : SL) | brk | delIdx (o i : E) | delFull (o : E) | delTail (o i : E) | bad | yld (e : E)
inductive SL where
  | nil | cons (s : S) (r : SL)
end

inductive Fl where
  | next | brk | cont | ret (v : AV)

/-- the classes whose objects the rules below serve -/
def instC : List Addr := [110, 186, 225, 410, 438, 466]
/-- classes whose objects are always true -/
def truthyC : List Addr := [186, 225]
/-- functions and classes of the top that may be called -/
def callC : List Addr := [110, 303, 186, 225, 410, 438, 466, 475, 480, 487]

def truthP (v : AV) (Q : Bool → Hp → Prop) (H : Hp) : Prop := match v with
  | .none => Q false H
  | .bool b => Q b H
  | .int i => Q (i != 0) H
  | .ref a => match H a with
    | some (.list xs) => Q (!xs.isEmpty) H
    | some (.dom C _ xs) => C = 303 ∧ Q (!xs.isEmpty) H
    | some (.dict es _) => Q (!es.isEmpty) H
    | some (.inst C _) => C ∈ truthyC ∧ Q true H
    | _ => False
  | .other _ => False

def binP (op : Operator) (a b : AV) (Q : AV → Hp → Prop) (H : Hp) : Prop := match op, a, b with
  | .Add, .int i, .int j => Q (.int (i + j)) H
  | .Sub, .int i, .int j => Q (.int (i - j)) H
  | .Mult, .int i, .int j => (-(2 ^ 62) < i ∧ i < 2 ^ 62 ∧ -(2 ^ 62) < j ∧ j < 2 ^ 62) ∧ Q (.int (i * j)) H
  | .Mod, .int i, .int j => (0 < j ∧ j < 100) ∧ Q (.int (i % j)) H
  | .FloorDiv, .int i, .int j => (0 < j ∧ j < 100) ∧ Q (.int (i / j)) H
  | _, _, _ => False

def augP (op : Operator) (a b : AV) (Q : AV → Hp → Prop) (H : Hp) : Prop := match op, a, b with
  | .Add, .int i, .int j => Q (.int (i + j)) H
  | .Add, .int i, .bool j => Q (.int (i + (if j then 1 else 0))) H
  | _, _, _ => False

def AV.isInt : AV → Bool
  | .int _ => true
  | _ => false
def AV.num : AV → Int
  | .int i => i
  | _ => 0
/-- a list of ints, as ints -/
def intsOf (H : Hp) (a : Addr) : Option (List Int) := match H a with
  | some (.list xs) => if xs.all AV.isInt then some (xs.map AV.num) else none
  | _ => none
def intsAt (H : Hp) : AV → Option (List Int)
  | .ref a => intsOf H a
  | _ => none
/-- a list of lists of ints -/
def rowsL (H : Hp) : List AV → Option (List (List Int))
  | [] => some []
  | x :: r => match intsAt H x, rowsL H r with
    | some a, some b => some (a :: b)
    | _, _ => none
def rowsOf (H : Hp) (a : Addr) : Option (List (List Int)) := match H a with
  | some (.list xs) => rowsL H xs
  | _ => none

def inP (a : AV) (b : AV) (Q : Bool → Hp → Prop) (H : Hp) : Prop := match a, b with
  | .int i, .ref d => match H d with
    | some (.dict es _) => Q (es.any fun p => p.1 == i) H
    | some (.list xs) => (xs.all AV.isInt = true) ∧ Q (xs.any fun x => x.num == i) H
    | _ => False
  | .ref l, .ref d => match intsOf H l, rowsOf H d with
    | some r, some rows => Q (rows.any fun x => x == r) H
    | _, _ => False
  | _, _ => False

def eqP (a b : AV) (Q : Bool → Hp → Prop) (H : Hp) : Prop := match a, b with
  | .int i, .int j => Q (i == j) H
  | .bool i, .bool j => Q (i == j) H
  | .ref l, .ref d => match H l, H d with
    | some (.list xs), some (.list ys) => ys = [] ∧ Q xs.isEmpty H
    | _, _ => False
  | _, _ => False

def isP (a b : AV) (Q : Bool → Hp → Prop) (H : Hp) : Prop := match a, b with
  | .none, .none => Q true H
  | .ref _, .none => Q false H
  | .ref x, .ref y => match H x, H y with
    | some (.inst _ _), some (.inst _ _) => Q (x == y) H
    | _, _ => False
  | _, _ => False

def AV.isBool : AV → Bool
  | .bool _ => true
  | _ => false
def cmpP (op : CmpOp) (a b : AV) (Q : Bool → Hp → Prop) (H : Hp) : Prop := match op, a, b with
  | .Lt, .int i, .int j => Q (decide (i < j)) H
  | .LtE, .int i, .int j => Q (decide (i ≤ j)) H
  | .Gt, .int i, .int j => Q (decide (i > j)) H
  | .GtE, .int i, .int j => Q (decide (i ≥ j)) H
  | .Eq, a, b => eqP a b Q H
  | .NotEq, a, b => a.isBool = false ∧ eqP a b (fun r => Q (!r)) H
  | .Is, a, b => isP a b Q H
  | .IsNot, a, b => isP a b (fun r => Q (!r)) H
  | .In, a, b => inP a b Q H
  | .NotIn, a, b => inP a b (fun r => Q (!r)) H
  | _, _, _ => False

def getP (xs : List AV) (i : Int) (Q : AV → Hp → Prop) (H : Hp) : Prop :=
  match (if 0 ≤ i then xs[i.toNat]? else if i = -1 then xs.getLast? else none) with
  | some v => Q v H
  | none => False
def look (es : List (Int × AV)) (i : Int) : Option AV := (es.find? fun p => p.1 = i).map (·.2)
def store (es : List (Int × AV)) (k : Int) (v : AV) : List (Int × AV) :=
  if es.any (fun p => p.1 = k) then es.map (fun p => if p.1 = k then (p.1, v) else p) else es ++ [(k, v)]
def drop (es : List (Int × AV)) (k : Int) : List (Int × AV) := es.filter fun p => p.1 ≠ k

def idxP (o i : AV) (Q : AV → Hp → Prop) (H : Hp) : Prop := match o, i with
  | .ref a, .int i => match H a with
    | some (.list xs) => 0 ≤ i ∧ getP xs i Q H
    | some (.rol xs) => 0 ≤ i ∧ (match xs[i.toNat]? with
      | some v => Q (.int v) H
      | none => False)
    | some (.tuple xs) => getP xs i Q H
    | some (.dict es _) => match look es i with
      | some v => Q v H
      | none => False
    | _ => False
  | _, _ => False

def newP (x : AO) (Q : AV → Hp → Prop) (H : Hp) : Prop := ∀ a, Fresh H a → Q (.ref a) (upd H a x)

def fullP (o : AV) (Q : AV → Hp → Prop) (H : Hp) : Prop := match o with
  | .ref a => match H a with
    | some (.list xs) => newP (.list xs) Q H
    | some (.dom C _ xs) => C = 303 ∧ newP (.list xs) Q H
    | _ => False
  | _ => False
/-- o[-k:] for 0 < k -/
def tailP (o i : AV) (Q : AV → Hp → Prop) (H : Hp) : Prop := match o, i with
  | .ref a, .int i => match H a with
    | some (.list xs) => -(2 ^ 62) < i ∧ i < 0 ∧ newP (.list (xs.drop (xs.length - (-i).toNat))) Q H
    | _ => False
  | _, _ => False

def NmAt (H : Hp) (dx : Addr) (n : String) : Option (Option AV) := match H dx with
  | some (.ns es) => some (es.lookup n)
  | _ => none
def AV.plain : AV → Bool
  | .other _ => false
  | _ => true
def attrP (o : AV) (n : String) (Q : AV → Hp → Prop) (H : Hp) : Prop := match o with
  | .ref a => match H a with
    | some (.inst C dx) => match NmAt H dx n with
      | some (some v) => C ∈ instC ∧ v.plain = true ∧ Q v H
      | _ => False
    | some (.dom C dx _) => match NmAt H dx n with
      | some (some v) => C = 303 ∧ v.plain = true ∧ Q v H
      | _ => False
    | _ => False
  | _ => False

/-- methods of the text's classes, and of Domain's base -/
def methL : List ((Addr × String) × Addr) := [
  ((110, "addVariable"), 64), ((110, "addVariables"), 71), ((110, "addConstraint"), 79), ((110, "getSolution"), 86), ((110, "_getArgs"), 107),
  ((186, "getSolutionIter"), 169), ((186, "getSolution"), 176), ((225, "recursiveBacktracking"), 208), ((225, "getSolution"), 215),
  ((410, "preProcess"), 399), ((438, "preProcess"), 336), ((466, "preProcess"), 336)]
def methD : List (String × Addr) := [("resetState", 279), ("pushState", 286), ("popState", 293), ("hideValue", 300)]
def methC (C : Addr) (n : String) : Option Addr := methL.lookup (C, n)
inductive BM where
  | lAppend | lPop | dCopy | dValues | domRemove | domExtend
inductive Me where
  | py (f : Addr) | bi (m : BM) | fn (f : Addr) | xb (id : String) | linit
def listMeth : String → Option Me
  | "append" => some (.bi .lAppend)
  | "pop" => some (.bi .lPop)
  | "sort" => some (.xb "list.sort")
  | "remove" => some (.xb "list.remove")
  | _ => none
def dictMeth : String → Option BM
  | "copy" => some .dCopy
  | "values" => some .dValues
  | _ => none
def domMeth : String → Option BM
  | "remove" => some .domRemove
  | "extend" => some .domExtend
  | _ => none
def isListType : Value → Bool
  | .type t => t == "list"
  | _ => false
def methOf (H : Hp) (o : AV) (n : String) : Option Me := match o with
  | .other v => if isListType v ∧ n = "__init__" then some .linit else none
  | .ref a => if a = 347 ∧ n = "preProcess" then some (.fn 336) else match H a with
    | some (.list _) => listMeth n
    | some (.dict _ _) => (dictMeth n).map .bi
    | some (.inst C dx) => match NmAt H dx n with
      | some none => (methC C n).map .py
      | _ => none
    | some (.dom C dx _) => if C = 303 then (match NmAt H dx n with
      | some none => match methD.lookup n with
        | some f => some (.py f)
        | none => (domMeth n).map .bi
      | _ => none) else none
    | _ => none
  | _ => none

def eraseInt (xs : List AV) (i : Int) : List AV := match xs with
  | [] => []
  | x :: r => if x.num = i then r else x :: eraseInt r i
/-- tuples of three ints -/
def keyOf (H : Hp) : AV → Option (Int × Int × Int)
  | .ref a => match H a with
    | some (.tuple [.int x, .int y, .int z]) => some (x, y, z)
    | _ => none
  | _ => none
def keyLt (a b : Int × Int × Int) : Prop := a.1 < b.1 ∨ (a.1 = b.1 ∧ (a.2.1 < b.2.1 ∨ (a.2.1 = b.2.1 ∧ a.2.2 < b.2.2)))

/-- an entry of a list of constraints: a tuple of an object and of a list -/
def pairOf (H : Hp) : AV → Option (Addr × Addr)
  | .ref a => match H a with
    | some (.tuple [.ref c, .ref l]) => match H c with
      | some (.inst _ _) => some (c, l)
      | _ => none
    | _ => none
  | _ => none
/-- the first entry with the constraint c goes: its list is l -/
def erasePair (H : Hp) (c l : Addr) : List AV → Option (List AV)
  | [] => none
  | x :: r => match pairOf H x with
    | some (c', l') => if c' = c then (if l' = l then some r else none) else (erasePair H c l r).map (x :: ·)
    | none => none
def consC : List Addr := [410, 438, 466]
def isCons (H : Hp) : AV → Prop
  | x => match pairOf H x with
    | some (c, _) => match H c with
      | some (.inst C _) => C ∈ consC
      | _ => False
    | none => False

def biMeth (b : BM) (o : AV) (vs : List AV) (Q : AV → Hp → Prop) (H : Hp) : Prop := match o with
  | .ref a => match b with
    | .lAppend => match vs, H a with
      | [v], some (.list xs) => xs.length < big ∧ Q .none (upd H a (.list (xs ++ [v])))
      | _, _ => False
    | .lPop => match vs, H a with
      | [], some (.list xs) => match xs.getLast? with
        | some v => Q v (upd H a (.list xs.dropLast))
        | none => False
      | _, _ => False
    | .dCopy => match vs, H a with
      | [], some (.dict es _) => ∀ b ep, Fresh H b → Q (.ref b) (upd H b (.dict es ep))
      | _, _ => False
    | .dValues => match vs, H a with
      | [], some (.dict es _) => newP (.dvals a) Q H
      | _, _ => False
    | .domRemove => match vs, H a with
      | [.int i], some (.dom C dx xs) => C = 303 ∧ xs.all AV.isInt = true ∧ xs.any (fun x => x.num == i) = true ∧ Q .none (upd H a (.dom C dx (eraseInt xs i)))
      | _, _ => False
    | .domExtend => match vs, H a with
      | [.ref l], some (.dom C dx xs) => match H l with
        | some (.list ys) => C = 303 ∧ xs.length + ys.length < big ∧ Q .none (upd H a (.dom C dx (xs ++ ys)))
        | _ => False
      | _, _ => False
  | _ => False

/-- list.sort of a list of triples -/
def sortP (o : AV) (Q : AV → Hp → Prop) (H : Hp) : Prop := match o with
  | .ref a => match H a with
    | some (.list xs) => xs.length ≤ 6 ∧ (∀ x ∈ xs, (keyOf H x).isSome = true) ∧ ∀ ys, ys.Perm xs → Q .none (upd H a (.list ys))
    | _ => False
  | _ => False
/-- list.remove of a pair of a constraint and a list -/
def removeP (o v : AV) (Q : AV → Hp → Prop) (H : Hp) : Prop := match o with
  | .ref a => match H a with
    | some (.list xs) => match pairOf H v with
      | some (c, l) => (∀ x ∈ v :: xs, isCons H x) ∧ (match erasePair H c l xs with
        | some ys => Q .none (upd H a (.list ys))
        | none => False)
      | none => False
    | _ => False
  | _ => False

def linitP (vs : List AV) (Q : AV → Hp → Prop) (H : Hp) : Prop := match vs with
  | [.ref a, .ref l] => match H a, H l with
    | some (.dom C dx xs), some (.list ys) => C = 303 ∧ xs = [] ∧ Q .none (upd H a (.dom C dx ys))
    | _, _ => False
  | _ => False

def callOk (H : Hp) (v : AV) : Prop := match v with
  | .ref a => a ∈ callC ∨ (match H a with | some (.inst _ _) => True | _ => False)
  | _ => False

def lenP (v : AV) (Q : AV → Hp → Prop) (H : Hp) : Prop := match v with
  | .ref a => match H a with
    | some (.list xs) => Q (.int xs.length) H
    | some (.rol xs) => Q (.int xs.length) H
    | some (.dict es _) => Q (.int es.length) H
    | some (.dom C _ xs) => C = 303 ∧ Q (.int xs.length) H
    | _ => False
  | _ => False
def lensetP (v : AV) (Q : AV → Hp → Prop) (H : Hp) : Prop := match v with
  | .ref a => match intsOf H a with
    | some xs => xs.length ≤ 12 ∧ ∀ k : Nat, (k = xs.length ↔ xs.Nodup) → Q (.int k) H
    | none => False
  | _ => False
def listP (v : AV) (Q : AV → Hp → Prop) (H : Hp) : Prop := match v with
  | .ref a => match H a with
    | some (.list xs) => newP (.list xs) Q H
    | some (.dict es _) => newP (.list (es.map fun p => .int p.1)) Q H
    | _ => False
  | _ => False
def isLTP (v : AV) (Q : AV → Hp → Prop) (H : Hp) : Prop := match v with
  | .ref a => match H a with
    | some (.list xs) => Q (.bool true) H
    | _ => False
  | _ => False
def isConP (v : AV) (Q : AV → Hp → Prop) (H : Hp) : Prop := match v with
  | .ref a => match H a with
    | some (.inst C _) => C ∈ consC ∧ Q (.bool true) H
    | _ => False
  | _ => False
def rangeP (u v : AV) (Q : AV → Hp → Prop) (H : Hp) : Prop := match u, v with
  | .int k, .int n => (-1000 < k ∧ k < 1000 ∧ -1000 < n ∧ n < 1000) ∧ newP (.range k n) Q H
  | _, _ => False

def biP (b : Bi) (vs : List AV) (Q : AV → Hp → Prop) (H : Hp) : Prop := match vs with
  | [v] => match b with
    | .len => lenP v Q H
    | .lenset => lensetP v Q H
    | .list => listP v Q H
    | .isLT => isLTP v Q H
    | .isCon => isConP v Q H
    | .range => rangeP (.int 0) v Q H
    | .range2 => False
  | [u, v] => match b with
    | .range2 => rangeP u v Q H
    | _ => False
  | _ => False

/-- what an iteration over v goes through -/
def itemsOf (H : Hp) (v : AV) : Option (List AV) := match v with
  | .ref a => match H a with
    | some (.list xs) => some xs
    | some (.dom C _ xs) => if C = 303 then some xs else none
    | some (.dict es _) => some (es.map fun p => .int p.1)
    | some (.range lo hi) => some ((List.range (hi - lo).toNat).map fun (k : Nat) => AV.int (lo + (k : Int)))
    | some (.dvals d) => match H d with
      | some (.dict es _) => some (es.map (·.2))
      | _ => none
    | _ => none
  | _ => none
/-- the source stands as it stood -/
def sameSrc (H H' : Hp) (v : AV) : Prop := match v with
  | .ref a => H' a = H a ∧ (match H a with | some (.dvals d) => H' d = H d | _ => True)
  | _ => True

structure VT where
  v : PT AV
  t : PT Bool
def VT.of (v : PT AV) : VT := ⟨v, fun Q => v (fun x => truthP x Q)⟩

/-- a comprehension's turns: the list grows at acc -/
def compL (src : Hp → Prop) (elt : AV → PT AV) (test : AV → PT Bool) (acc : Addr) (fin : Hp → Prop) : List AV → Hp → Prop
  | [], H => src H ∧ fin H
  | x :: r, H => src H ∧ test x (fun b H1 => if b then elt x (fun y H2 => match H2 acc with
      | some (.list ys) => ys.length < big ∧ compL src elt test acc fin r (upd H2 acc (.list (ys ++ [y])))
      | _ => False) H1 else compL src elt test acc fin r H1) H

/-- two generators: the inner one's turns -/
def compL2 (src : AV → Hp → Prop) (it2 : AV → PT AV) (test : AV → AV → PT Bool) (elt : AV → AV → PT AV) (acc : Addr) (fin : Hp → Prop) : List AV → Hp → Prop
  | [], H => src .none H ∧ fin H
  | x :: r, H => src .none H ∧ it2 x (fun v H1 => match itemsOf H1 v with
      | some ys => compL (fun H' => sameSrc H1 H' v) (elt x) (test x) acc (fun H' => compL2 src it2 test elt acc fin r H') ys H1
      | none => False) H

section
variable (cp : AV → List AV → PT AV)
mutual
def semX (m : Loc) : E → VT
  | .loc x => .of fun Q H => match m x with | some v => Q v H | none => False
  | .lit v => .of fun Q H => Q v H
  | .attr e n => .of fun Q => (semX m e).v fun v => attrP v n Q
  | .idx e i => .of fun Q => (semX m e).v fun v => (semX m i).v fun k => idxP v k Q
  | .full e => .of fun Q => (semX m e).v fun v => fullP v Q
  | .tail e i => .of fun Q => (semX m e).v fun v => (semX m i).v fun k => tailP v k Q
  | .bin op a b => .of fun Q => (semX m a).v fun x => (semX m b).v fun y => binP op x y Q
  | .neg a => .of fun Q => (semX m a).v fun x H => match x with | .int i => Q (.int (-i)) H | _ => False
  | .not a => ⟨fun Q => (semX m a).v fun x => truthP x fun b => Q (.bool (!b)), fun Q => (semX m a).t fun b => Q (!b)⟩
  | .and2 a b => ⟨fun Q => (semX m a).v fun x => truthP x fun t => if t then (semX m b).v Q else Q x, fun Q => (semX m a).t fun t => if t then (semX m b).t Q else Q false⟩
  | .or2 a b => ⟨fun Q => (semX m a).v fun x => truthP x fun t => if t then Q x else (semX m b).v Q, fun Q => (semX m a).t fun t => if t then Q true else (semX m b).t Q⟩
  | .cmp op a b => ⟨fun Q => (semX m a).v fun x => (semX m b).v fun y => cmpP op x y fun r => Q (.bool r), fun Q => (semX m a).v fun x => (semX m b).v fun y => cmpP op x y Q⟩
  | .ite c a b => ⟨fun Q => (semX m c).t fun t => if t then (semX m a).v Q else (semX m b).v Q, fun Q => (semX m c).t fun t => if t then (semX m a).t Q else (semX m b).t Q⟩
  | .list es => .of fun Q => semL m es fun vs H => vs.length ≤ 30 ∧ newP (.list vs) Q H
  | .tup es => .of fun Q => semL m es fun vs H => vs.length ≤ 30 ∧ newP (.tuple vs) Q H
  | .dict0 => .of fun Q H => ∀ a ep, Fresh H a → Q (.ref a) (upd H a (.dict [] ep))
  | .dict1 k v => .of fun Q => (semX m k).v fun kv => (semX m v).v fun vv H => match kv with
    | .int i => ∀ a ep, Fresh H a → Q (.ref a) (upd H a (.dict [(i, vv)] ep))
    | _ => False
  | .call f es => .of fun Q => (semX m f).v fun g => semL m es fun vs H => callOk H g ∧ cp g vs Q H
  | .meth o n es => .of fun Q => (semX m o).v fun ov H => match methOf H ov n with
    | some (.py f) => semL m es (fun vs H2 => cp (.ref f) (ov :: vs) Q H2) H
    | some (.bi b) => semL m es (fun vs H2 => biMeth b ov vs Q H2) H
    | some (.fn f) => semL m es (fun vs H2 => cp (.ref f) vs Q H2) H
    | some (.xb id) => semL m es (fun vs H2 => cp (.other (.builtin id)) (ov :: vs) Q H2) H
    | some .linit => semL m es (fun vs H2 => linitP vs Q H2) H
    | none => False
  | .bi b es => .of fun Q => semL m es fun vs => biP b vs Q
  | .comp elt x it ifs => .of fun Q => (semX m it).v fun v H => match itemsOf H v with
    | some xs => m ".0" = none ∧ ∀ acc, Fresh H acc → compL (fun H' => sameSrc H H' v) (fun y => (semX (upL m x y) elt).v) (fun y => semTs (upL m x y) ifs) acc (fun H' => Q (.ref acc) H') xs (upd H acc (.list []))
    | none => False
  | .comp2 elt x it y it2 c => .of fun Q => (semX m it).v fun v H => match itemsOf H v with
    | some xs => (m ".0" = none ∧ m y = none) ∧ ∀ acc, Fresh H acc → compL2 (fun _ H' => sameSrc H H' v) (fun a => (semX (upL m x a) it2).v) (fun a b => (semX (upL (upL m x a) y b) c).t) (fun a b => (semX (upL (upL m x a) y b) elt).v) acc (fun H' => Q (.ref acc) H') xs (upd H acc (.list []))
    | none => False
def semL (m : Loc) : EL → PT (List AV)
  | .nil => fun Q H => Q [] H
  | .cons e r => fun Q => (semX m e).v fun v => semL m r fun vs => Q (v :: vs)
def semTs (m : Loc) : EL → PT Bool
  | .nil => fun Q H => Q true H
  | .cons e r => fun Q => (semX m e).t fun b => if b then semTs m r Q else Q false
end

def setAttrP (o : AV) (n : String) (v : AV) (Q : Hp → Prop) (H : Hp) : Prop := v.plain = true ∧ (match o with
  | .ref a => match H a with
    | some (.inst C dx) => C ∈ instC ∧ (match H dx with
      | some (.ns es) => es.length < 20 ∧ es.lookup n = none ∧ Q (upd H dx (.ns (es ++ [(n, v)])))
      | _ => False)
    | some (.dom C dx _) => C = 303 ∧ (match H dx with
      | some (.ns es) => es.length < 20 ∧ es.lookup n = none ∧ Q (upd H dx (.ns (es ++ [(n, v)])))
      | _ => False)
    | _ => False
  | _ => False)
def setItemP (o i v : AV) (Q : Hp → Prop) (H : Hp) : Prop := match o, i with
  | .ref a, .int k => match H a with
    | some (.dict es _) => es.length < big ∧ ∀ ep, Q (upd H a (.dict (store es k v) ep))
    | _ => False
  | _, _ => False
def delItemP (o i : AV) (Q : Hp → Prop) (H : Hp) : Prop := match o, i with
  | .ref a, .int k => match H a with
    | some (.dict es _) => (look es k).isSome = true ∧ ∀ ep, Q (upd H a (.dict (drop es k) ep))
    | _ => False
  | _, _ => False
def delFullP (o : AV) (Q : Hp → Prop) (H : Hp) : Prop := match o with
  | .ref a => match H a with
    | some (.list _) => Q (upd H a (.list []))
    | _ => False
  | _ => False
def delTailP (o i : AV) (Q : Hp → Prop) (H : Hp) : Prop := match o, i with
  | .ref a, .int k => match H a with
    | some (.list xs) => -(2 ^ 62) < k ∧ k < 0 ∧ Q (upd H a (.list (xs.take (xs.length - (-k).toNat))))
    | _ => False
  | _, _ => False

abbrev ST := (Fl → Loc → Hp → Prop) → Loc → Hp → Prop

def forL (src : Hp → Prop) (step : AV → ST) (fin : ST) (Q : Fl → Loc → Hp → Prop) : List AV → Loc → Hp → Prop
  | [], m, H => src H ∧ fin Q m H
  | x :: r, m, H => src H ∧ step x (fun fl m' H' => match fl with
      | .next | .cont => forL src step fin Q r m' H'
      | .brk => Q .next m' H'
      | .ret v => Q (.ret v) m' H') m H
def whlN (c : Loc → PT Bool) (body fin : ST) (Q : Fl → Loc → Hp → Prop) : Nat → Loc → Hp → Prop
  | 0, _, _ => False
  | n + 1, m, H => c m (fun b H' => if b then body (fun fl m' H'' => match fl with
      | .next | .cont => whlN c body fin Q n m' H''
      | .brk => Q .next m' H''
      | .ret v => Q (.ret v) m' H'') m H' else fin Q m H') H

def bindT (xs : List String) (v : AV) (Q : Loc → Hp → Prop) (m : Loc) (H : Hp) : Prop := match xs with
  | [x] => Q (upL m x v) H
  | _ => match v with
    | .ref a => match H a with
      | some (.tuple vs) => vs.length = xs.length ∧ Q ((xs.zip vs).foldl (fun m p => upL m p.1 p.2) m) H
      | _ => False
    | _ => False

mutual
def semS : S → ST
  | .expr e => fun Q m => (semX cp m e).v fun _ => Q .next m
  | .assign x e => fun Q m => (semX cp m e).v fun v => Q .next (upL m x v)
  | .assignT xs e => fun Q m => (semX cp m e).v fun v => bindT xs v (fun m' => Q .next m') m
  | .assignAttr o n e => fun Q m => (semX cp m e).v fun v => (semX cp m o).v fun ov => setAttrP ov n v (Q .next m)
  | .assignIdx o i e => fun Q m => (semX cp m e).v fun v => (semX cp m o).v fun ov => (semX cp m i).v fun iv => setItemP ov iv v (Q .next m)
  | .aug x op e => fun Q m H => match m x with
    | some a => (semX cp m e).v (fun b => augP op a b fun v => Q .next (upL m x v)) H
    | none => False
  | .ret e => fun Q m => (semX cp m e).v fun v => Q (.ret v) m
  | .ife c a b => fun Q m => (semX cp m c).t fun t => if t then semSL a Q m else semSL b Q m
  | .for1 xs it body orelse => fun Q m => (semX cp m it).v fun v H => match itemsOf H v with
    | some ys => forL (fun H' => sameSrc H H' v) (fun y Q' m' H' => bindT xs y (fun m'' => semSL body Q' m'') m' H') (semSL orelse) Q ys m H
    | none => False
  | .whl c body orelse => fun Q m H => ∃ n, whlN (fun m' => (semX cp m' c).t) (semSL body) (semSL orelse) Q n m H
  | .brk => fun Q m => Q .brk m
  | .delIdx o i => fun Q m => (semX cp m o).v fun ov => (semX cp m i).v fun iv => delItemP ov iv (Q .next m)
  | .delFull o => fun Q m => (semX cp m o).v fun ov => delFullP ov (Q .next m)
  | .delTail o i => fun Q m => (semX cp m o).v fun ov => (semX cp m i).v fun iv => delTailP ov iv (Q .next m)
  | .bad => fun _ _ _ => False
  | .yld e => fun Q m => (semX cp m e).v fun v H => match v with
    | .ref a => Q (.ret (.other (.ref a))) m H
    | _ => False
def semSL : SL → ST
  | .nil => fun Q m => Q .next m
  | .cons s r => fun Q => semS s fun fl m' H' => match fl with
    | .next => semSL r Q m' H'
    | fl => Q fl m' H'
end
end
end Csp

namespace Csp
open PySem PySem.W PySem.Calls PyProof.Rows

noncomputable abbrev KK (w : World) : Frag := hd.heap_39 w.params
def isFrameO (o : Obj) : Bool := match o.cls with
  | .type s => s == "frame"
  | _ => false
theorem k_noframe (w : World) : ((KK w).all fun p => !isFrameO p.2) = true := by kernel_rfl
theorem k_nof {w : World} {a : Addr} {o : Obj} (h : (KK w).lookup a = some o) : o.cls ≠ .type "frame" := by
  intro e
  have m : (a, o) ∈ KK w := by
    revert h
    generalize KK w = K
    induction K with
    | nil => intro h; cases h
    | cons p r ih =>
      obtain ⟨b, x⟩ := p
      intro h
      rw [List.lookup_cons] at h
      cases hb : a == b with
      | true => rw [hb] at h; cases h; rw [eq_of_beq hb]; exact List.mem_cons_self
      | false => rw [hb] at h; exact List.mem_cons_of_mem _ (ih h)
  have := List.all_eq_true.mp (k_noframe w) _ m
  simp [isFrameO, e] at this

/-- what is known of the text's top, and of the frames that the call stands in -/
structure Stat (fs : List Env) (w : World) (F : FF) : Prop where
  top : ∀ a o, (KK w).lookup a = some o → F.k a = some o
  bi : ∃ o es ep, F.k builtinsNs = some o ∧ o.data = .dict es ep ∧ StrKeys es ∧ ∀ x, x ≠ ("__name__" : Str) → nsFind es x = bootBuiltins x
  live : ∀ env ∈ fs, env.scope.kind ≠ .module ∧ ∃ L o, env.frame = some L ∧ F.k L = some o ∧ (∃ es ep, o.data = .dict es ep) ∧ o.cls = .type "frame" ∧ o.dict = some F.os.2

structure Room (fs : List Env) (A : Around) (n : Nat) : Prop where
  depth : A.depth + 10 * n < 900
  units : A.units + 100 * n < 9000
  handled : A.handled = none
  frames : A.frames = some fs

section
variable {prog : Program} {w : World} {fs : List Env} {A : Around} {F : FF} {H : Hp} {s : Shared} {n : Nat}

theorem Stat.inK (T : Stat fs w F) (S : St prog w F H s) : (KK w).In s.heap := fun a o e => S.keepX (T.top a o e) (k_nof e)
theorem Stat.mono (T : Stat fs w F) {F' : FF} (h : ∀ a o, F.k a = some o → F'.k a = some o) (ho : F'.os = F.os) : Stat fs w F' :=
  ⟨fun a o e => h a o (T.top a o e), let ⟨o, es, ep, h1, r⟩ := T.bi; ⟨o, es, ep, h _ _ h1, r⟩, fun env he => let ⟨h1, L, o, h2, h3, r⟩ := T.live env he; ⟨h1, L, o, h2, h _ _ h3, by rw [ho]; exact r⟩⟩
theorem Room.le (R : Room fs A n) : A.depth < recursionLimit := by have := R.depth; unfold recursionLimit; omega
theorem Room.cl1 (R : Room fs A n) : A.in1.units < cLine := by have := R.units; rw [Around.in1_units]; unfold cLine; omega
theorem Room.cl (R : Room fs A n) : A.units < cLine := by have := R.units; unfold cLine; omega

/-! ints -/
theorem tx_keep {α : Type} {m : Sem α} {Q : α → Hp → Prop} (h : ∀ s (R : α → Shared → Prop), (∀ a t, Q a H → R a { s with toks := t }) → wpAny (model prog w) A m R (fun _ _ => False) s) : TX prog w A F m Q H :=
  fun s S => h s _ fun a t q => ⟨H, S.toks t, q⟩

theorem fmod_pos {i j : Int} (h : 0 < j) : i.fmod j = i % j := Int.fmod_eq_emod_of_nonneg i (Int.le_of_lt h)
theorem fdiv_pos {i j : Int} (h : 0 < j) : i.fdiv j = i / j := Int.fdiv_eq_ediv_of_nonneg i (Int.le_of_lt h)

theorem tx_binary {op : Operator} {x y : Value} {Q : AV → Hp → Prop} (h : binP op (ab x) (ab y) Q H) : TX prog w A F (binaryOp op x y) (fun v => Q (ab v)) H := by
  intro s S
  unfold binP at h
  split at h
  · rename_i i j e1 e2; obtain ⟨t, rfl⟩ := ab_int e1; obtain ⟨u, rfl⟩ := ab_int e2
    exact wpAny_add_int ⟨H, S.toks _, h⟩
  · rename_i i j e1 e2; obtain ⟨t, rfl⟩ := ab_int e1; obtain ⟨u, rfl⟩ := ab_int e2
    exact P.sub_int ⟨H, S.toks _, h⟩
  · rename_i i j e1 e2; obtain ⟨t, rfl⟩ := ab_int e1; obtain ⟨u, rfl⟩ := ab_int e2
    obtain ⟨⟨a, b, c, d⟩, h⟩ := h
    exact P.mul_int ⟨H, S.toks _, h⟩ (IntMulOk.of_left (intBits_le_64 (by omega) (by omega)))
  · rename_i i j e1 e2; obtain ⟨t, rfl⟩ := ab_int e1; obtain ⟨u, rfl⟩ := ab_int e2
    obtain ⟨⟨a, b⟩, h⟩ := h
    exact PyProof.Rows.mod_int (by omega) ⟨H, S.toks _, by rw [fmod_pos a]; exact h⟩
  · rename_i i j e1 e2; obtain ⟨t, rfl⟩ := ab_int e1; obtain ⟨u, rfl⟩ := ab_int e2
    obtain ⟨⟨a, b⟩, h⟩ := h
    exact floordiv_int (by omega) ⟨H, S.toks _, by rw [fdiv_pos a]; exact h⟩ (Or.inl (PyProof.noPylong_small (by omega)))
  · exact h.elim

theorem tx_aug {op : Operator} {x y : Value} {Q : AV → Hp → Prop} (h : augP op (ab x) (ab y) Q H) : TX prog w A F (inplaceOp op x y) (fun v => Q (ab v)) H := by
  intro s S
  unfold augP at h
  split at h
  · rename_i i j e1 e2; obtain ⟨t, rfl⟩ := ab_int e1; obtain ⟨u, rfl⟩ := ab_int e2
    exact wpAny_iadd_int ⟨H, S.toks _, h⟩
  · rename_i i j e1 e2; obtain ⟨t, rfl⟩ := ab_int e1; obtain rfl := ab_bool e2
    exact iadd_int_bool ⟨H, S.toks _, h⟩
  · exact h.elim

/-! what the written part of the top says -/
section
variable (w)
theorem k_dom_len : findIn (KK w) (.ref 303) "__len__" = some (some (.builtin "list.__len__")) := by kernel_rfl
theorem k_dom_bool : findIn (KK w) (.ref 303) "__bool__" = some none := by kernel_rfl
theorem k_dom_list : mroIn (KK w) 303 (.type "list") = some true := by kernel_rfl
theorem k_dom_iter : findIn (KK w) (.ref 303) "__iter__" = some (some (.builtin "list.__iter__")) := by kernel_rfl
theorem k_dom_getitem : findIn (KK w) (.ref 303) "__getitem__" = some (some (.builtin "list.__getitem__")) := by kernel_rfl
theorem k_dom_remove : findIn (KK w) (.ref 303) "remove" = some (some (.builtin "list.remove")) := by kernel_rfl
theorem k_dom_extend : findIn (KK w) (.ref 303) "extend" = some (some (.builtin "list.extend")) := by kernel_rfl
theorem k_truthy_186 : findIn (KK w) (.ref 186) "__bool__" = some none ∧ findIn (KK w) (.ref 186) "__len__" = some none := by constructor <;> kernel_rfl
theorem k_truthy_225 : findIn (KK w) (.ref 225) "__bool__" = some none ∧ findIn (KK w) (.ref 225) "__len__" = some none := by constructor <;> kernel_rfl
end
end
end Csp

namespace Csp
open PySem PySem.W PySem.Calls PyProof.Rows

section
variable {prog : Program} {w : World} {fs : List Env} {A : Around} {F : FF} {H : Hp} {s : Shared} {n : Nat}

theorem St.list (S : St prog w F H s) {a : Addr} {xs : List AV} (h : H a = some (.list xs)) : ∃ items n, s.heap.get? a = some (listO items n) ∧ abl items = xs ∧ items.size ≤ big := by
  obtain ⟨o, h1, items, n, rfl, h2⟩ := S.get h; exact ⟨items, n, h1, h2⟩
theorem listO_is {h : Heap} {a : Addr} {items : Array Value} {n : Nat} (e : h.get? a = some (listO items n)) : h.IsList a items := ⟨_, e, rfl, n, rfl⟩
theorem abl_length (items : Array Value) : (abl items).length = items.size := by simp [abl]
theorem abl_get (items : Array Value) (i : Nat) : (abl items)[i]? = (items[i]?).map ab := by simp [abl]
theorem abl_empty (items : Array Value) : (abl items).isEmpty = items.isEmpty := by
  obtain ⟨l⟩ := items; cases l <;> rfl
theorem abl_all (items : Array Value) (h : (abl items).all AV.isInt = true) : ∀ v ∈ items, ∃ i t, v = .int i t := by
  intro v hv
  have : (ab v).isInt = true := List.all_eq_true.mp h _ (List.mem_map.mpr ⟨v, by simpa using hv, rfl⟩)
  cases v <;> simp [ab, AV.isInt] at this
  exact ⟨_, _, rfl⟩
theorem St.dict (S : St prog w F H s) {a : Addr} {es : List (Int × AV)} {ep : Nat} (h : H a = some (.dict es ep)) : ∃ kvs, s.heap.DictAt (intKind prog w) a kvs ep ∧ kvs.map (fun p => (p.1, ab p.2)) = es ∧ kvs.length ≤ big := by
  obtain ⟨o, h1, kvs, ents, a1, a2, a3, a4, a5, a6, a7⟩ := S.get h
  exact ⟨kvs, ⟨o, ents, h1, a1, a2, a3, a4, a5⟩, a6, a7⟩
theorem St.notMods (S : St prog w F H s) (T : Stat fs w F) {a : Addr} {x : AO} (h : H a = some x) (hr : x.isRo = false) : (a == sysModules) = false := by
  obtain ⟨o, _, _, _, h4⟩ := S.own a x h
  have := (h4 hr).2
  exact beq_eq_false_iff_ne.mpr (Nat.ne_of_gt this)
theorem St.instAt (S : St prog w F H s) {a C dx : Addr} {es : List (String × AV)} (h : H a = some (.inst C dx)) (hd : H dx = some (.ns es)) :
    ∃ sl ents n, InstAt s.heap a ⟨.ref C, some dx, .plain, sl⟩ C (some (dictOf ents n)) ∧ NsOk ents es ∧ ents.length ≤ 100 := by
  obtain ⟨o, h1, sl, rfl⟩ := S.get h
  obtain ⟨o', h2, ents, n, rfl, h3, h4⟩ := S.get hd
  exact ⟨sl, ents, n, ⟨h1, rfl, rfl, h2⟩, h3, h4⟩

theorem St.domType (S : St prog w F H s) {a C dx : Addr} {xs : List AV} (h : H a = some (.dom C dx xs)) (M : Model) : Looks M s.heap (typeOf (.ref a)) (.ref C) := by
  obtain ⟨o, h1, items, m, sl, rfl, rfl, h2⟩ := S.get h
  exact (Looks.ld h1).andThen .now
theorem St.instType (S : St prog w F H s) {a C dx : Addr} (h : H a = some (.inst C dx)) (M : Model) : Looks M s.heap (typeOf (.ref a)) (.ref C) := by
  obtain ⟨o, h1, sl, rfl⟩ := S.get h
  exact (Looks.ld h1).andThen .now
theorem looks_dom_inst {M : Model} {h : Heap} {a : Addr} (X : (KK w).In h) (L : Looks M h (typeOf (.ref a)) (.ref 303)) : Looks M h (isInstance (.ref a) (.type "list")) true :=
  L.andThen (looks_mroIn X (k_dom_list w))
theorem check_meth {M : Model} {A : Around} {E : Value → Shared → Prop} {s : Shared} {i owner n : String} {self : Value} {rest : List Value} {kw : List (Str × Value)} {Q : Unit → Shared → Prop}
    (hk : builtinKind i = some .method) (hs : splitId i = some (owner, n)) (hi : Looks M s.heap (isInstance self (.type owner)) true) (ha : argsOk i ⟨self :: rest, kw⟩) (q : Q () s) :
    wpAny M A (checkBuiltinCall i ⟨self :: rest, kw⟩) Q E s := by
  simp only [checkBuiltinCall, hk, hs]
  refine wpAny_bind (hi.here ?_)
  simp only [Bool.not_true, Bool.false_eq_true, if_false]
  cases hsig : Manifest.signature? i with
  | none => exact wpAny_pure q
  | some sig =>
    simp only [argsOk, hsig] at ha
    have h2 : Bind.checkArgs i sig ⟨self :: rest, kw⟩ = pure () := ha
    show wpAny _ _ (Bind.checkArgs i sig ⟨self :: rest, kw⟩) _ _ s
    rw [h2]; exact wpAny_pure q
/-- a call of one of list's slots or methods upon a Domain -/
theorem dom_call {id name : String} {nm : Str} {B : Builtin} {a : Addr} {rest : List Value} {Q : Value → Shared → Prop} {E : Value → Shared → Prop} (X : (KK w).In s.heap) (L : ∀ M, Looks M s.heap (typeOf (.ref a)) (.ref 303))
    (slot : Slot "list" nm id) (entry : entryFor table id = some B) (hk : builtinKind id = some .slot ∨ builtinKind id = some .method) (hs : splitId id = some ("list", name)) (ha : argsOk id ⟨.ref a :: rest, []⟩)
    (h : wpAny (model prog w) A.in1 (B ⟨.ref a :: rest, []⟩) (fun fin s' => ∃ v, fin = .done (.ret v) ∧ Q v s') E s) : wpAny (model prog w) A (call (.builtin id) (.ref a :: rest)) Q E s := by
  have hc : wpAny (model prog w) A.in1 (B ⟨.ref a :: rest, []⟩) (fun fin s' => match fin with | .done f => (match (Except.ok f : Result) with | .ok (.ret v) => Q v s' | .ok _ => False | .error e => E e s') | .again c' => c'.quiet = true ∧ codeAny (model prog w) A c' (fun r s' => match r with | .ok (.ret v) => Q v s' | .ok _ => False | .error e => E e s') s') E s :=
    wpAny_mono h (fun fin s' z => by obtain ⟨v, rfl, q⟩ := z; exact q) fun _ _ e => e
  refine wpAny_call (codeAny_call_builtin slot.plain entry ?_)
  rcases hk with hk | hk
  · exact check_slot hk hs (looks_dom_inst X (L _)) ha hc
  · exact check_meth hk hs (looks_dom_inst X (L _)) ha hc
theorem dom_special {nm : Str} {id : String} {a : Addr} {rest : List Value} {Q : Option Value → Shared → Prop} {E : Value → Shared → Prop} (X : (KK w).In s.heap) (L : ∀ M, Looks M s.heap (typeOf (.ref a)) (.ref 303))
    (hf : findIn (KK w) (.ref 303) nm = some (some (.builtin id))) (slot : Slot "list" nm id) 
    (h : wpAny (model prog w) A (call (.builtin id) (.ref a :: rest)) (fun v s' => Q (some v) s') E s) : wpAny (model prog w) A (callSpecial? (.ref a) nm rest) Q E s := by
  simp only [callSpecial?]
  refine wpAny_bind (wpAny_bind ((L _).here ((looks_findIn X hf).here ?_)))
  simp only [slot.bind]
  exact wpAny_holding (wpAny_bind (wpAny_pure (wpAny_bind (wpAny_mono h (fun v s' h' => wpAny_pure h') fun _ _ h' => h'))))
theorem dom_len_body {a : Addr} {C : Value} {od : Option Addr} {items : Array Value} {m : Nat} {sl : Array (Option Value)} {Q : Value → Shared → Prop} {E : Value → Shared → Prop} (X : (KK w).In s.heap) (L : ∀ M, Looks M s.heap (typeOf (.ref a)) (.ref 303))
    (ho : s.heap.get? a = some ⟨C, od, .seq items m, sl⟩) (hfit : (items.size : Int) < 2 ^ 63)
    (h : Q (.int items.size (s.toks + 1)) { s with toks := s.toks + 1 + 1 }) : wpAny (model prog w) A (Builtin.«len» ⟨[.ref a], []⟩) (fun fin s' => ∃ r, fin = .done (.ret r) ∧ Q r s') E s := by
  unfold Builtin.«len»
  refine wpAny_bind (m := oneArg "len" _) (wpAny_pure ?_)
  refine wpAny_bind (m := callSpecial? (.ref a) (Str.ofString "__len__")) (dom_special X L (k_dom_len w) slot_list_len (dom_call (name := "__len__") X L slot_list_len entry_list_len (.inl (by decide +kernel)) (by decide +kernel) (args_list_len _) ?_))
  · show wpAny _ _ (do retInt (← seqSize a)) _ _ s
    unfold seqSize
    refine wpAny_bind (wpAny_bind (wpAny_load ho ?_))
    refine wpAny_pure (wpAny_bind (wpAny_mkInt (wpAny_pure ⟨_, rfl, ?_⟩)))
    refine wpAny_bind (wpAny_holding (wpAny_pure ?_))
    refine wpAny_bind (wpAny_letGo ?_)
    show wpAny _ _ (if ((items.size : Nat) : Int) < 0 then _ else _) _ _ _
    rw [if_neg (by omega)]
    show wpAny _ _ (if ((items.size : Nat) : Int) ≥ 2 ^ 63 then _ else _) _ _ _
    rw [if_neg (by omega)]
    exact wpAny_bind (wpAny_mkInt (wpAny_pure ⟨_, rfl, h⟩))
theorem tx_dom_truthy (T : Stat fs w F) (R : Room fs A n) {a dx : Addr} {xs : List AV} {Q : Bool → Hp → Prop} (hx : H a = some (.dom 303 dx xs)) (h : Q (!xs.isEmpty) H) : TX prog w A F (truthy (.ref a)) Q H := by
  intro s S
  have X := T.inK S
  obtain ⟨o, h1, items, m, sl, rfl, rfl, h2⟩ := S.get hx
  have L := St.domType S hx
  unfold truthy
  refine wpAny_bind (m := callSpecial? (.ref a) (Str.ofString "__bool__")) (wpAny_bind (wpAny_bind ((L (model prog w)).here ((looks_findIn X (k_dom_bool w)).here (wpAny_pure ?_)))))
  refine wpAny_bind (wpAny_bind ((L (model prog w)).here ((looks_findIn X (k_dom_len w)).here ?_)))
  rw [if_neg (by simp)]
  refine wpAny_bind (wpAny_runValue (codeAny_builtin entry_len ?_))
  rw [Around.under_plainId plain_len _]
  refine wpAny_mono (dom_len_body (Q := fun r s' => r = .int items.size (s.toks + 1) ∧ St prog w F H s') X L h1 (by unfold big at h2; omega) ⟨rfl, S.toks _⟩) (fun fin s' z => ?_) fun _ _ e => e
  obtain ⟨r, rfl, rfl, S'⟩ := z
  refine wpAny_pure ⟨H, S', ?_⟩
  rw [abl_empty] at h
  have e : ((items.size : Int) != 0) = !items.isEmpty := by
    obtain ⟨l⟩ := items
    cases l <;> simp <;> omega
  rw [e]; exact h

theorem tx_truthy (T : Stat fs w F) (R : Room fs A n) {v : Value} {Q : Bool → Hp → Prop} (h : truthP (ab v) Q H) : TX prog w A F (truthy v) Q H := by
  intro s S
  unfold truthP at h
  split at h
  · rename_i e; obtain rfl := ab_none e; exact wpAny_pure ⟨H, S, h⟩
  · rename_i b e; obtain rfl := ab_bool e; exact wpAny_truthy_bool ⟨H, S, h⟩
  · rename_i i e; obtain ⟨t, rfl⟩ := ab_int e; exact P.truthy_int ⟨H, S, h⟩
  · rename_i a e; obtain rfl := ab_ref e
    split at h
    · rename_i xs hx
      obtain ⟨items, n, h1, rfl, h2⟩ := S.list hx
      exact wpAny_truthy_list (listO_is h1) (by unfold big at h2; omega) ⟨H, S.toks _, by rw [abl_empty] at h; exact h⟩
    · rename_i C dx xs hx
      obtain ⟨rfl, h⟩ := h
      exact tx_dom_truthy T R hx h s S
    · rename_i es ep hx
      obtain ⟨kvs, h1, rfl, h2⟩ := S.dict hx
      refine wpAny_truthy_dict (S.notMods T hx rfl) h1.dictOf (by unfold big at h2; omega) ⟨H, S.toks _, ?_⟩
      rw [List.isEmpty_map] at h; exact h
    · rename_i C dx hx
      obtain ⟨hC, h⟩ := h
      have X := T.inK S
      have L := St.instType S hx (model prog w)
      have key : findIn (KK w) (.ref C) "__bool__" = some none ∧ findIn (KK w) (.ref C) "__len__" = some none := by
        simp only [truthyC, List.mem_cons, List.mem_nil_iff, or_false] at hC
        rcases hC with rfl | rfl
        · exact k_truthy_186 w
        · exact k_truthy_225 w
      unfold truthy
      refine wpAny_bind (m := callSpecial? (.ref a) (Str.ofString "__bool__")) (wpAny_bind (wpAny_bind (L.here ((looks_findIn X key.1).here (wpAny_pure ?_)))))
      refine wpAny_bind (wpAny_bind (L.here ((looks_findIn X key.2).here ?_)))
      exact wpAny_pure ⟨H, S, h⟩
    · exact h.elim
  · exact h.elim
end
end Csp

namespace Csp
open PySem PySem.W PySem.Calls PyProof.Rows PySem.SeqAt

section
variable {prog : Program} {w : World} {fs : List Env} {A : Around} {F : FF} {H : Hp} {s : Shared} {n : Nat}

theorem noIns (es : List (Int × Value)) (i : Int) : (valueAt es i).isSome = es.any (fun p => p.1 == i) := by
  unfold valueAt
  induction es with
  | nil => rfl
  | cons p r ih =>
    by_cases h : p.1 = i
    · simp [List.find?_cons, h]
    · simp only [List.find?_cons, h, decide_false, List.any_cons, beq_eq_false_iff_ne.mpr h, Bool.false_or]
      exact ih

theorem eqAt_of_ints {s : Shared} {i j : Int} {t u : Tok} : EqAt A s (.int i t) (.int j u) (i == j) := (MeetsSeq.EqGives.int i j t u).at A s

theorem abl_ints {items : Array Value} (h : ∀ v ∈ items, ∃ i t, v = .int i t) : (abl items).all AV.isInt = true := by
  refine List.all_eq_true.mpr fun x hx => ?_
  obtain ⟨v, hv, rfl⟩ := List.mem_map.mp hx
  obtain ⟨i, t, rfl⟩ := h v (by simpa using hv)
  rfl

theorem eqRows {s : Shared} (hu : A.units < cLine) {l b : Addr} {xs ys : Array Value} (hl : s.heap.IsList l xs) (hb : s.heap.IsList b ys) (hx : (abl xs).all AV.isInt = true) (hy : (abl ys).all AV.isInt = true) :
    EqAt A s (.ref l) (.ref b) ((abl xs).map AV.num == (abl ys).map AV.num) := by
  by_cases e : l = b
  · subst e
    have : xs = ys := by
      obtain ⟨o, h1, _, n, h2⟩ := hl
      obtain ⟨o', h1', _, n', h2'⟩ := hb
      rw [h1] at h1'; cases h1'
      rw [h2] at h2'; cases h2'; rfl
    subst this
    rw [beq_self_eq_true]
    exact EqAt.same _
  refine EqAt.of_refs e ?_
  have ix := abl_all xs hx
  have iy := abl_all ys hy
  by_cases hs : xs.size = ys.size
  · have key : ((List.range xs.size).all fun j => match xs[j]?, ys[j]? with | some u, some v => (ab u).num == (ab v).num | _, _ => true) = ((abl xs).map AV.num == (abl ys).map AV.num) := by
      rw [Bool.eq_iff_iff, List.all_eq_true, beq_iff_eq]
      constructor
      · intro h
        refine List.ext_getElem? fun j => ?_
        by_cases hj : j < xs.size
        · have := h j (List.mem_range.mpr hj)
          have hj' : j < ys.size := hs ▸ hj
          simp only [Array.getElem?_eq_getElem hj, Array.getElem?_eq_getElem hj', beq_iff_eq] at this
          simp [abl, Array.getElem?_eq_getElem hj, Array.getElem?_eq_getElem hj', this]
        · have hj' : ¬ j < ys.size := hs ▸ hj
          have e1 : xs[j]? = none := by simp; omega
          have e2 : ys[j]? = none := by simp; omega
          simp [abl, e1, e2]
      · intro h j hj
        have hj1 : j < xs.size := List.mem_range.mp hj
        have hj2 : j < ys.size := hs ▸ hj1
        have := congrArg (fun l => l[j]?) h
        simp only [abl, List.map_map, List.getElem?_map, Array.getElem?_toList, Array.getElem?_eq_getElem hj1, Array.getElem?_eq_getElem hj2, Option.map_some, Option.some.injEq, Function.comp] at this
        simp only [Array.getElem?_eq_getElem hj1, Array.getElem?_eq_getElem hj2, beq_iff_eq]
        exact this
    rw [← key]
    refine RcAt.lists hl hb hs hu fun j h1 h2 => ?_
    obtain ⟨i, t, e1⟩ := ix xs[j] (Array.getElem_mem h1)
    obtain ⟨k, u, e2⟩ := iy ys[j] (Array.getElem_mem h2)
    simp only [Array.getElem?_eq_getElem h1, Array.getElem?_eq_getElem h2, e1, e2]
    exact eqAt_of_ints
  · have : ((abl xs).map AV.num == (abl ys).map AV.num) = false := by
      rw [beq_eq_false_iff_ne]
      intro h
      have := congrArg List.length h
      simp only [List.length_map, abl_length] at this
      exact hs this
    rw [this]
    exact RcAt.lists_lengths hl hb (by simpa using hs) hu

theorem rowsL_eq (hu : A.units < cLine) (S : St prog w F H s) {l : Addr} {xs : Array Value} (hl : s.heap.IsList l xs) (hx : (abl xs).all AV.isInt = true) :
    ∀ (ys : List Value) {rows : List (List Int)}, rowsL H (ys.map ab) = some rows → ∃ e : Value → Bool, (∀ y ∈ ys, EqAt A s y (.ref l) (e y)) ∧ ys.any e = rows.any fun x => x == (abl xs).map AV.num := by
  classical
  have one : ∀ (y : Value) (r : List Int), intsAt H (ab y) = some r → EqAt A s y (.ref l) (r == (abl xs).map AV.num) := by
    intro y r h
    unfold intsAt at h
    split at h
    · rename_i b e
      obtain rfl := ab_ref e
      unfold intsOf at h
      split at h
      · rename_i zs hb
        split at h
        · rename_i hz
          cases h
          obtain ⟨items, m, h1, rfl, _⟩ := S.list hb
          exact eqRows hu (listO_is h1) hl hz hx
        · cases h
      · cases h
    · cases h
  let e : Value → Bool := fun y => match intsAt H (ab y) with | some r => r == (abl xs).map AV.num | none => false
  have ev : ∀ y r, intsAt H (ab y) = some r → e y = (r == (abl xs).map AV.num) := fun y r h => by simp [e, h]
  intro ys
  suffices h : ∀ {rows : List (List Int)}, rowsL H (ys.map ab) = some rows → (∀ y ∈ ys, EqAt A s y (.ref l) (e y)) ∧ ys.any e = rows.any fun x => x == (abl xs).map AV.num from fun {rows} h' => ⟨e, h h'⟩
  induction ys with
  | nil => intro rows h; cases h; exact ⟨fun _ h => (nomatch h), rfl⟩
  | cons y r ih =>
    intro rows h
    simp only [List.map_cons, rowsL] at h
    split at h
    · rename_i a b ha hb
      cases h
      obtain ⟨h1, h2⟩ := ih hb
      refine ⟨fun z hz => ?_, ?_⟩
      · rcases List.mem_cons.mp hz with rfl | hz
        · rw [ev _ _ ha]; exact one _ _ ha
        · exact h1 z hz
      · rw [List.any_cons, List.any_cons, h2, ev _ _ ha]
    · cases h

/-- what «in» asks, for both of its forms -/
theorem tx_in_core (T : Stat fs w F) (R : Room fs A n) {x y : Value} {Q : Bool → Hp → Prop} (h : inP (ab x) (ab y) Q H) (s : Shared) (S : St prog w F H s) :
    ∃ b, (∃ t, St prog w F H { s with toks := t } ∧ Q b H ∧ wpAny (model prog w) A (compareOp .In x y) (fun v s' => v = .bool b ∧ s' = { s with toks := t }) (fun _ _ => False) s ∧ wpAny (model prog w) A (compareOp .NotIn x y) (fun v s' => v = .bool (!b) ∧ s' = { s with toks := t }) (fun _ _ => False) s) := by
  unfold inP at h
  split at h
  · rename_i i d e1 e2
    obtain ⟨t, rfl⟩ := ab_int e1
    obtain rfl := ab_ref e2
    split at h
    · rename_i es ep hd
      obtain ⟨kvs, h1, rfl, h2⟩ := S.dict hd
      have hm := S.notMods T hd rfl
      have e : (valueAt kvs i).isSome = ((kvs.map fun p => (p.1, ab p.2)).any fun p => p.1 == i) := by rw [noIns, List.any_map]; rfl
      refine ⟨_, s.toks + 1, S.toks _, h, ?_, ?_⟩
      · exact wpAny_in_of (knd := intKind prog w) (intKind_is prog w i t) hm h1.dictOf.mapOf (by rw [e]; exact ⟨rfl, rfl⟩)
      · exact wpAny_notIn_of (knd := intKind prog w) (intKind_is prog w i t) hm h1.dictOf.mapOf (by rw [e]; exact ⟨rfl, rfl⟩)
    · rename_i xs hd
      obtain ⟨hi, h⟩ := h
      obtain ⟨items, m, h1, rfl, h2⟩ := S.list hd
      have ix := abl_all items hi
      have e : (items.any fun y => (ab y).num == i) = ((abl items).any fun x => x.num == i) := by
        rw [← Array.any_toList]; simp [abl, List.any_map, Function.comp_def]
      have he : ∀ y, y ∈ items → EqAt A.in1 s y (.int i t) ((ab y).num == i) := fun y hy => by
        obtain ⟨j, u, rfl⟩ := ix y hy; exact eqAt_of_ints
      refine ⟨_, s.toks, S, h, ?_, ?_⟩
      · exact in_listAt (fun y => (ab y).num == i) (listO_is h1) he (by rw [e]; exact ⟨rfl, rfl⟩)
      · exact notIn_listAt (fun y => (ab y).num == i) (listO_is h1) he (by rw [e]; exact ⟨rfl, rfl⟩)
    · exact h.elim
  · rename_i l d e1 e2
    obtain rfl := ab_ref e1
    obtain rfl := ab_ref e2
    split at h
    · rename_i r rows hr hrows
      unfold intsOf at hr
      split at hr
      · rename_i xs hl
        split at hr
        · rename_i hxs
          cases hr
          unfold rowsOf at hrows
          split at hrows
          · rename_i ys hd
            obtain ⟨items, m, h1, rfl, h2⟩ := S.list hd
            obtain ⟨litems, m', h1', rfl, h2'⟩ := S.list hl
            obtain ⟨e, he1, he2⟩ := rowsL_eq (A := A.in1) R.cl1 S (listO_is h1') hxs items.toList hrows
            have e : (items.any e) = (rows.any fun x => x == (abl litems).map AV.num) := by rw [← Array.any_toList]; exact he2
            refine ⟨_, s.toks, S, h, ?_, ?_⟩
            · exact in_listAt _ (listO_is h1) (fun y hy => he1 y (by simpa using hy)) (by rw [e]; exact ⟨rfl, rfl⟩)
            · exact notIn_listAt _ (listO_is h1) (fun y hy => he1 y (by simpa using hy)) (by rw [e]; exact ⟨rfl, rfl⟩)
          · cases hrows
        · cases hr
      · cases hr
    · exact h.elim
  · exact h.elim
end
end Csp

namespace Csp
open PySem PySem.W PySem.Calls PyProof.Rows PySem.SeqAt

section
variable {prog : Program} {w : World} {fs : List Env} {A : Around} {F : FF} {H : Hp} {s : Shared} {n : Nat}

theorem St.instGet (S : St prog w F H s) {a C dx : Addr} (h : H a = some (.inst C dx)) : ∃ sl, s.heap.get? a = some ⟨.ref C, some dx, .plain, sl⟩ := by
  obtain ⟨o, h1, sl, rfl⟩ := S.get h; exact ⟨sl, h1⟩

theorem tx_eq (T : Stat fs w F) (R : Room fs A n) {x y : Value} {Q : Bool → Hp → Prop} (h : eqP (ab x) (ab y) Q H) (s : Shared) (S : St prog w F H s) :
    ∃ b, Q b H ∧ wpAny (model prog w) A (compareOp .Eq x y) (fun v s' => v = .bool b ∧ s' = s) (fun _ _ => False) s ∧ (((∃ i, ab x = .int i) ∨ (∃ a, ab x = .ref a)) → wpAny (model prog w) A (compareOp .NotEq x y) (fun v s' => v = .bool (!b) ∧ s' = s) (fun _ _ => False) s) := by
  unfold eqP at h
  split at h
  · rename_i i j e1 e2
    obtain ⟨t, rfl⟩ := ab_int e1; obtain ⟨u, rfl⟩ := ab_int e2
    exact ⟨_, h, P.eq_int ⟨rfl, rfl⟩, fun _ => P.ne_int ⟨rfl, rfl⟩⟩
  · rename_i i j e1 e2
    obtain rfl := ab_bool e1; obtain rfl := ab_bool e2
    exact ⟨_, h, eq_bool ⟨rfl, rfl⟩, fun q => by rcases q with ⟨_, q⟩ | ⟨_, q⟩ <;> cases q⟩
  · rename_i l d e1 e2
    obtain rfl := ab_ref e1; obtain rfl := ab_ref e2
    split at h
    · rename_i xs ys hl hd
      obtain ⟨rfl, h⟩ := h
      obtain ⟨xi, m1, a1, rfl, b1⟩ := S.list hl
      obtain ⟨yi, m2, a2, c2, b2⟩ := S.list hd
      have hy0 : yi.size = 0 := by rw [← abl_length, c2]; rfl
      refine ⟨_, h, ?_, fun _ => ?_⟩
      all_goals rw [abl_empty]
      · by_cases e : xi.size = 0
        · have := RcAt.lists (A := A) (e := fun _ => true) (listO_is a1) (listO_is a2) (by omega) R.cl (fun j h1 h2 => absurd h1 (by omega)) prog w (fun _ _ => False)
          refine this _ ⟨?_, rfl⟩
          rw [e]; simp [Array.isEmpty, e]
        · refine RcAt.lists_lengths (A := A) (listO_is a1) (listO_is a2) (by simp; omega) R.cl prog w (fun _ _ => False) _ ⟨?_, rfl⟩
          simp [Array.isEmpty, e]
      · by_cases e : xi.size = 0
        · have := RcNeAt.lists (A := A) (e := fun _ => true) (listO_is a1) (listO_is a2) (by omega) R.cl (fun j h1 h2 => absurd h1 (by omega)) prog w (fun _ _ => False)
          refine this _ ⟨?_, rfl⟩
          rw [e]; simp [Array.isEmpty, e]
        · refine RcNeAt.lists_lengths (A := A) (listO_is a1) (listO_is a2) (by simp; omega) R.cl prog w (fun _ _ => False) _ ⟨?_, rfl⟩
          simp [Array.isEmpty, e]
    · exact h.elim
  · exact h.elim

theorem tx_is {x y : Value} {Q : Bool → Hp → Prop} (h : isP (ab x) (ab y) Q H) (s : Shared) (S : St prog w F H s) :
    ∃ b, Q b H ∧ wpAny (model prog w) A (compareOp .Is x y) (fun v s' => v = .bool b ∧ s' = s) (fun _ _ => False) s ∧ wpAny (model prog w) A (compareOp .IsNot x y) (fun v s' => v = .bool (!b) ∧ s' = s) (fun _ _ => False) s := by
  unfold isP at h
  split at h
  · rename_i e1 e2
    obtain rfl := ab_none e1; obtain rfl := ab_none e2
    exact ⟨_, h, wpAny_is_self rfl ⟨rfl, rfl⟩, wpAny_isNot_self rfl ⟨rfl, rfl⟩⟩
  · rename_i a e1 e2
    obtain rfl := ab_ref e1; obtain rfl := ab_none e2
    exact ⟨_, h, wpAny_is_other rfl (by simp) ⟨rfl, rfl⟩, wpAny_isNot_other rfl (by simp) ⟨rfl, rfl⟩⟩
  · rename_i a b e1 e2
    obtain rfl := ab_ref e1; obtain rfl := ab_ref e2
    split at h
    · rename_i C dx C' dx' ha hb
      obtain ⟨sl, h1⟩ := S.instGet ha
      obtain ⟨sl', h2⟩ := S.instGet hb
      refine ⟨_, h, ?_, ?_⟩
      · by_cases e : a = b
        · subst e; rw [beq_self_eq_true]; exact wpAny_is_ref_self ⟨rfl, rfl⟩
        · rw [beq_eq_false_iff_ne.mpr e]; exact wpAny_is_ref_other e h1 h2 (by simp) ⟨rfl, rfl⟩
      · by_cases e : a = b
        · subst e; rw [beq_self_eq_true]; exact wpAny_isNot_ref_self ⟨rfl, rfl⟩
        · rw [beq_eq_false_iff_ne.mpr e]; exact wpAny_isNot_ref_other e h1 h2 (by simp) ⟨rfl, rfl⟩
    · exact h.elim
  · exact h.elim

/-- every comparison gives a bool -/
theorem tx_cmp (T : Stat fs w F) (R : Room fs A n) {op : CmpOp} {x y : Value} {Q : Bool → Hp → Prop} (h : cmpP op (ab x) (ab y) Q H) : TX prog w A F (compareOp op x y) (fun v H' => ∃ b, v = .bool b ∧ Q b H') H := by
  intro s S
  have fin : ∀ {t : Sem Value} {b : Bool} {tk : Nat}, Q b H → wpAny (model prog w) A t (fun v s' => v = .bool b ∧ s' = { s with toks := tk }) (fun _ _ => False) s →
      wpAny (model prog w) A t (fun a s' => ∃ H', St prog w F H' s' ∧ ∃ b, a = .bool b ∧ Q b H') (fun _ _ => False) s := fun q z =>
    wpAny_mono z (fun v s' ⟨h1, h2⟩ => ⟨H, h2 ▸ S.toks _, _, h1, q⟩) fun _ _ e => e
  unfold cmpP at h
  split at h
  · rename_i i j e1 e2; obtain ⟨t, rfl⟩ := ab_int e1; obtain ⟨u, rfl⟩ := ab_int e2
    exact fin (tk := s.toks) h (P.lt_int ⟨rfl, rfl⟩)
  · rename_i i j e1 e2; obtain ⟨t, rfl⟩ := ab_int e1; obtain ⟨u, rfl⟩ := ab_int e2
    exact fin (tk := s.toks) h (P.le_int ⟨rfl, rfl⟩)
  · rename_i i j e1 e2; obtain ⟨t, rfl⟩ := ab_int e1; obtain ⟨u, rfl⟩ := ab_int e2
    exact fin (tk := s.toks) h (P.gt_int ⟨rfl, rfl⟩)
  · rename_i i j e1 e2; obtain ⟨t, rfl⟩ := ab_int e1; obtain ⟨u, rfl⟩ := ab_int e2
    exact fin (tk := s.toks) h (P.ge_int ⟨rfl, rfl⟩)
  · obtain ⟨b, q, z, _⟩ := tx_eq T R h s S
    exact fin (tk := s.toks) q z
  · obtain ⟨hb, h⟩ := h
    obtain ⟨b, q, _, z⟩ := tx_eq T R h s S
    refine fin (b := !b) (tk := s.toks) q (z ?_)
    unfold eqP at h
    split at h
    · rename_i e _; exact .inl ⟨_, e⟩
    · rename_i e _; rw [e] at hb; cases hb
    · rename_i e _; exact .inr ⟨_, e⟩
    · exact h.elim
  · obtain ⟨b, q, z, _⟩ := tx_is (A := A) h s S
    exact fin (tk := s.toks) q z
  · obtain ⟨b, q, _, z⟩ := tx_is (A := A) h s S
    exact fin (b := !b) (tk := s.toks) q z
  · obtain ⟨b, tk, _, q, z, _⟩ := tx_in_core T R h s S
    exact fin q z
  · obtain ⟨b, tk, _, q, _, z⟩ := tx_in_core T R h s S
    exact fin (b := !b) q z
  · exact h.elim

/-! built-ins -/
theorem St.newRef (S : St prog w F H s) {o : Obj} {x : AO} {Q : AV → Hp → Prop} (hx : Ok prog w o x) (hf : o.isFreed = false) (hr : x.isRo = false) (h : newP x Q H) :
    ∃ H', St prog w F H' { s with heap := s.heap.push o } ∧ Q (ab (.ref s.heap.objs.size)) H' :=
  ⟨_, S.alloc hx hf hr, h _ S.freshH⟩

theorem abl_toArray (vs : List Value) : abl vs.toArray = vs.map ab := by simp [abl]
theorem tx_newList {vs : List Value} {Q : AV → Hp → Prop} (hz : vs.length ≤ big) (h : newP (.list (vs.map ab)) Q H) : TX prog w A F (newList vs) (fun v => Q (ab v)) H := fun s S =>
  wpAny_newList (S.newRef (o := listO vs.toArray 0) (x := .list (vs.map ab)) ⟨vs.toArray, 0, rfl, abl_toArray vs, by simpa using hz⟩ rfl rfl h) (by unfold big at hz; rw [sizeLine_eq]; omega)
theorem tx_newTuple {vs : List Value} {Q : AV → Hp → Prop} (hz : vs.length ≤ big) (h : newP (.tuple (vs.map ab)) Q H) : TX prog w A F (newTuple vs) (fun v => Q (ab v)) H := fun s S =>
  wpAny_newTuple (S.newRef (o := tupO vs.toArray 0) (x := .tuple (vs.map ab)) ⟨vs.toArray, 0, rfl, abl_toArray vs, by simpa using hz⟩ rfl rfl h) (by unfold big at hz; rw [sizeLine_eq]; omega)

theorem sizeBig {k : Nat} (h : k ≤ big) : k ≤ sizeLine := by unfold big at h; rw [sizeLine_eq]; omega

theorem tx_len (T : Stat fs w F) (R : Room fs A n) {x : Value} {Q : AV → Hp → Prop} (h : lenP (ab x) Q H) : TX prog w A F (call (.builtin "len") [x]) (fun v => Q (ab v)) H := by
  intro s S
  unfold lenP at h
  split at h
  · rename_i a e
    obtain rfl := ab_ref e
    split at h
    · rename_i xs hx
      obtain ⟨items, m, h1, rfl, h2⟩ := S.list hx
      exact len_list (listO_is h1) (by unfold big at h2; omega) ⟨H, S.toks _, by rw [abl_length] at h; exact h⟩
    · rename_i xs hx
      obtain ⟨o, h1, items, m, h2, h3, h4, h5⟩ := S.get hx
      have e : items.size = xs.length := by rw [← abl_length, h4, List.length_map]
      exact len_list ⟨o, h1, h2, m, h3⟩ (by unfold big at h5; omega) ⟨H, S.toks _, by rw [← e] at h; exact h⟩
    · rename_i es ep hx
      obtain ⟨kvs, h1, rfl, h2⟩ := S.dict hx
      refine Calls.call_function_entry kind_len plain_len entry_len (args_len1 _) ?_
      exact wpAny_len_body_dict (S.notMods T hx rfl) h1.dictOf (by unfold big at h2; omega) ⟨H, S.toks _, by rw [List.length_map] at h; exact h⟩
    · rename_i C dx xs hx
      obtain ⟨rfl, h⟩ := h
      obtain ⟨o, h1, items, m, sl, rfl, rfl, h2⟩ := S.get hx
      refine Calls.call_function_entry kind_len plain_len entry_len (args_len1 _) ?_
      exact dom_len_body (T.inK S) (fun M => St.domType S hx M) h1 (by unfold big at h2; omega) ⟨H, S.toks _, by rw [abl_length] at h; exact h⟩
    · exact h.elim
  · exact h.elim

theorem tx_listOf (T : Stat fs w F) (R : Room fs A n) {x : Value} {Q : AV → Hp → Prop} (h : listP (ab x) Q H) : TX prog w A F (call (.type "list") [x]) (fun v => Q (ab v)) H := by
  intro s S
  unfold listP at h
  split at h
  · rename_i a e
    obtain rfl := ab_ref e
    split at h
    · rename_i xs hx
      obtain ⟨items, m, h1, rfl, h2⟩ := S.list hx
      refine call_list_seq a (T := "list") (.inl rfl) h1 rfl rfl (fun h' c' hk ho => ?_) (sizeBig h2)
      exact ⟨_, S.new (x := .list (abl items)) (Nat.le_refl _) hk ho ⟨items, c', rfl, rfl, h2⟩ rfl _, h _ S.freshH⟩
    · rename_i es ep hx
      obtain ⟨kvs, h1, rfl, h2⟩ := S.dict hx
      have lo := S.notMods T hx rfl
      refine kdl_call (kdl_dict lo) R.handled h1 (sizeBig h2) fun h' tk acc' c' hk ho hi => ?_
      have e : abl acc' = (kvs.map fun p => (p.1, ab p.2)).map fun p => AV.int p.1 := by
        refine List.ext_getElem? fun j => ?_
        rw [abl_get]
        by_cases hj : j < kvs.length
        · have hj' : j < acc'.size := by rw [hi.1]; exact hj
          obtain ⟨k, x, e1, e2⟩ := hi.2 j acc'[j] (Array.getElem?_eq_getElem hj')
          obtain ⟨t, e3⟩ := Value.isInt_shape e2
          simp [Array.getElem?_eq_getElem hj', e3, ab, e1]
        · have hj' : ¬ j < acc'.size := by rw [hi.1]; exact hj
          have e1 : acc'[j]? = none := by simp; omega
          have e2 : kvs[j]? = none := by simp; omega
          simp [e1, e2]
      refine ⟨_, S.new (x := .list ((kvs.map fun p => (p.1, ab p.2)).map fun p => AV.int p.1)) (Nat.le_refl _) hk ho ⟨acc', c', rfl, e, by rw [hi.1]; exact h2⟩ rfl _, ?_⟩
      exact h _ S.freshH
    · exact h.elim
  · exact h.elim

theorem small_of {k n : Int} (h : -1000 < k ∧ k < 1000 ∧ -1000 < n ∧ n < 1000) : Builtin.Range.small k n 1 = true := by
  obtain ⟨h1, h2, h3, h4⟩ := h
  unfold Builtin.Range.small
  rw [rangeSize_one]
  have f : ∀ x : Int, -3000 < x → x < 3000 → Builtin.Range.rangeFitsLong x = true := fun x a b => by
    unfold Builtin.Range.rangeFitsLong
    simp only [Bool.and_eq_true, decide_eq_true_eq]
    omega
  rw [f k (by omega) (by omega), f n (by omega) (by omega), f 1 (by omega) (by omega), f _ (by split <;> omega) (by split <;> omega)]
  simp only [Bool.and_self, Bool.true_and, Bool.or_eq_true]
  right
  rw [if_pos (by decide)]
  exact f _ (by omega) (by omega)

theorem tx_range2 {x y : Value} {Q : AV → Hp → Prop} (h : rangeP (ab x) (ab y) Q H) : TX prog w A F (call (.type "range") [x, y]) (fun v => Q (ab v)) H := by
  intro s S
  unfold rangeP at h
  split at h
  · rename_i i j e1 e2
    obtain ⟨t, rfl⟩ := ab_int e1; obtain ⟨u, rfl⟩ := ab_int e2
    obtain ⟨hb, h⟩ := h
    refine call_range_2 ?_
    obtain ⟨H', S', q⟩ := S.newRef (x := .range i j) (o := { cls := .type "range", data := .fields #[.int i t, .int j u, .int 1 s.toks] }) ⟨t, u, s.toks, rfl, small_of hb⟩ rfl rfl h
    exact ⟨H', S'.toks _, q⟩
  · exact h.elim
theorem tx_range1 {x : Value} {Q : AV → Hp → Prop} (h : rangeP (.int 0) (ab x) Q H) : TX prog w A F (call (.type "range") [x]) (fun v => Q (ab v)) H := by
  intro s S
  unfold rangeP at h
  split at h
  · rename_i i j e1 e2
    obtain ⟨u, rfl⟩ := ab_int e2
    cases e1
    obtain ⟨hb, h⟩ := h
    refine call_range_1 ?_
    obtain ⟨H', S', q⟩ := S.newRef (x := .range 0 j) (o := { cls := .type "range", data := .fields #[.int 0 s.toks, .int j u, .int 1 (s.toks + 1)] }) ⟨_, u, _, rfl, small_of hb⟩ rfl rfl h
    exact ⟨H', S'.toks _, q⟩
  · exact h.elim

theorem k_isin_cons (w : World) : isIn (KK w) (.ref 410) 347 = true ∧ isIn (KK w) (.ref 438) 347 = true ∧ isIn (KK w) (.ref 466) 347 = true := by
  refine ⟨?_, ?_, ?_⟩ <;> kernel_rfl
theorem tx_isCon (T : Stat fs w F) (R : Room fs A n) {x : Value} {Q : AV → Hp → Prop} (h : isConP (ab x) Q H) : TX prog w A F (call (.builtin "isinstance") [x, .ref 347]) (fun v => Q (ab v)) H := by
  intro s S
  unfold isConP at h
  split at h
  · rename_i a e
    obtain rfl := ab_ref e
    split at h
    · rename_i C dx hx
      obtain ⟨hC, h⟩ := h
      refine isi_call (T.inK S) (fun M => St.instType S hx M) ?_ (by simp) ⟨H, S, h⟩
      simp only [consC, List.mem_cons, List.mem_nil_iff, or_false] at hC
      obtain ⟨k1, k2, k3⟩ := k_isin_cons w
      rcases hC with rfl | rfl | rfl
      · exact k1
      · exact k2
      · exact k3
    · exact h.elim
  · exact h.elim
end
end Csp

namespace Csp
open PySem PySem.W PySem.Calls PyProof.Rows PySem.SeqAt

section
variable {prog : Program} {w : World} {fs : List Env} {A : Around} {F : FF} {H : Hp} {s : Shared} {n : Nat}

theorem look_eq (kvs : List (Int × Value)) (i : Int) : look (kvs.map fun p => (p.1, ab p.2)) i = (valueAt kvs i).map ab := by
  unfold look valueAt
  induction kvs with
  | nil => rfl
  | cons p r ih =>
    by_cases h : p.1 = i
    · simp [h]
    · simp only [List.map_cons, List.find?_cons, h, decide_false]
      exact ih

theorem seqIdx_nonneg {k : Int} {n : Nat} (h0 : 0 ≤ k) (h : k.toNat < n) : seqIndex? k n = some k.toNat := by
  unfold seqIndex?
  have e : (if k < 0 then k + n else k) = k := if_neg (by omega)
  simp only [e]
  rw [if_pos]
  simp only [Bool.and_eq_true, decide_eq_true_eq]
  omega

theorem tx_sub (T : Stat fs w F) (R : Room fs A n) {value slice : Expr} {o i : Value} {Q : AV → Hp → Prop} (h : idxP (ab o) (ab i) Q H)
    (hs : subscripted slice false o i = operate [o, i] (getItem o i)) : TX prog w A F (subscriptTail value slice o i) (fun v => Q (ab v)) H := by
  intro s S
  unfold idxP at h
  split at h
  · rename_i a k e1 e2
    obtain rfl := ab_ref e1
    obtain ⟨t, rfl⟩ := ab_int e2
    split at h
    · rename_i xs hx
      obtain ⟨items, m, h1, rfl, h2⟩ := S.list hx
      obtain ⟨h0, h⟩ := h
      unfold getP at h
      rw [if_pos h0, abl_get] at h
      cases e : items[k.toNat]? with
      | none => rw [e] at h; exact h.elim
      | some v =>
        rw [e] at h
        have hlt : k.toNat < items.size := (Array.getElem?_eq_some_iff.mp e).1
        exact tail_any (listO_is h1).typeIs slot_list_getitem.lookup (wpAny_getItem_list (listO_is h1) h0 (by unfold big at h2; omega) e ⟨H, S, h⟩) hs
    · rename_i xs hx
      obtain ⟨o, h1, items, m, h2, h3, h4, h5⟩ := S.get hx
      obtain ⟨h0, h⟩ := h
      have hl : s.heap.IsList a items := ⟨o, h1, h2, m, h3⟩
      cases e : items[k.toNat]? with
      | none =>
        have : (abl items)[k.toNat]? = none := by rw [abl_get, e]; rfl
        rw [h4, List.getElem?_map] at this
        cases e' : xs[k.toNat]? with
        | none => rw [e'] at h; exact h.elim
        | some _ => rw [e'] at this; cases this
      | some v =>
        have : (abl items)[k.toNat]? = some (ab v) := by rw [abl_get, e]; rfl
        rw [h4, List.getElem?_map] at this
        cases e' : xs[k.toNat]? with
        | none => rw [e'] at this; cases this
        | some x =>
          rw [e'] at h this
          have hv : ab v = .int x := (Option.some.inj this).symm
          have hlt : k.toNat < items.size := (Array.getElem?_eq_some_iff.mp e).1
          exact tail_any hl.typeIs slot_list_getitem.lookup (wpAny_getItem_list hl h0 (by unfold big at h5; omega) e ⟨H, S, by show Q (ab _) H; rw [hv]; exact h⟩) hs
    · rename_i xs hx
      obtain ⟨o, h1, items, m, rfl, rfl, h2⟩ := S.get hx
      have ht : IsTup s.heap a items := ⟨_, h1, rfl, m, rfl⟩
      unfold getP at h
      by_cases h0 : 0 ≤ k
      · rw [if_pos h0, abl_get] at h
        cases e : items[k.toNat]? with
        | none => rw [e] at h; exact h.elim
        | some v =>
          rw [e] at h
          have hlt : k.toNat < items.size := (Array.getElem?_eq_some_iff.mp e).1
          have hk : seqIndex? k items.size = some k.toNat := seqIdx_nonneg h0 hlt
          exact tail_any ht.typeIs slot_tuple_getitem.lookup (PyProof.Rows.getItem_tuple ht (by omega) (by unfold big at h2; omega) hk e ⟨H, S, h⟩) hs
      · rw [if_neg h0] at h
        by_cases h1' : k = -1
        · rw [if_pos h1'] at h
          subst h1'
          cases e : (abl items).getLast? with
          | none => rw [e] at h; exact h.elim
          | some v =>
            rw [e] at h
            rw [List.getLast?_eq_getElem?, abl_length, abl_get] at e
            cases e' : items[items.size - 1]? with
            | none => rw [e'] at e; cases e
            | some u =>
              rw [e'] at e
              have hlt : items.size - 1 < items.size := (Array.getElem?_eq_some_iff.mp e').1
              have hk : seqIndex? (-1) items.size = some (items.size - 1) := by
                rw [MeetsSeq.seqIndex_neg (by decide) (by omega)]; congr 1; omega
              have hv : ab u = v := Option.some.inj e
              exact tail_any ht.typeIs slot_tuple_getitem.lookup (PyProof.Rows.getItem_tuple ht (by omega) (by omega) hk e' ⟨H, S, by show Q (ab _) H; rw [hv]; exact h⟩) hs
        · rw [if_neg h1'] at h; exact h.elim
    · rename_i es ep hx
      obtain ⟨kvs, h1, rfl, h2⟩ := S.dict hx
      rw [look_eq] at h
      cases e : valueAt kvs k with
      | none => rw [e] at h; exact h.elim
      | some v =>
        rw [e] at h
        exact tail_any h1.dictOf.typeIs slot_dict_getitem.lookup (wpAny_getItem_of (intKind_is prog w k t) h1.dictOf.mapOf e ⟨H, S.toks _, h⟩) hs
    · exact h.elim
  · exact h.elim

/-- list's own item by a slice, whatever the class of the object -/
theorem slice_body {l sl : Addr} {cls : Value} {dd : Option Addr} {sls : Array (Option Value)} {items : Array Value} {m : Nat} {vl vu vs : Value} {lo hi st : Option Int} {Q : Value → Shared → Prop} {E : Value → Shared → Prop}
    (ho : s.heap.get? l = some ⟨cls, dd, .seq items m, sls⟩)
    (hs : s.heap.IsSliceOf sl vl vu vs) (pl : IsPart vl lo) (pu : IsPart vu hi) (ps : IsPart vs st) (h0 : st ≠ some 0) (hsz : items.size ≤ sizeLine)
    (h : Q (.ref s.heap.objs.size) { s with heap := s.heap.push { cls := .type "list", data := .seq (slicePick items lo hi st) } }) :
    wpAny (model prog w) A (Builtin.«list.__getitem__» ⟨[.ref l, .ref sl], []⟩) (fun fin s' => ∃ v, fin = .done (.ret v) ∧ Q v s') E s := by
  obtain ⟨os, hos, hcs, hds⟩ := id hs
  have hTs : s.TypeIs (.ref sl) "slice" := ⟨os, hos, hcs⟩
  show wpAny _ _ (Builtin.List.listSubscript? (.ref sl) >>= _) _ _ s
  refine wpAny_bind ?_
  unfold Builtin.List.listSubscript?
  refine wpAny_bind (wpAny_specialOf hTs slice_no_index ?_)
  refine wpAny_pure ?_
  show wpAny _ _ (typeOf (.ref sl) >>= _) _ _ s
  refine wpAny_bind (wpAny_typeOf hTs ?_)
  rw [if_neg (by decide), listSliceParts_eq]
  have hstep : ¬ ((rawPart st == rawInt 0) = true) := by
    cases st with
    | none => exact Bool.false_ne_true
    | some c =>
      intro hh
      have : c = 0 := by simpa [rawPart, rawInt] using hh
      exact h0 (by rw [this])
  refine wpAny_bind (wpAny_bind (wpAny_field hos hds (x := vs) rfl (wpAny_bind (wpAny_listPart ps ?_))))
  rw [if_neg hstep]
  refine wpAny_bind (wpAny_field hos hds (x := vl) rfl (wpAny_bind (wpAny_listPart pl ?_)))
  refine wpAny_bind (wpAny_field hos hds (x := vu) rfl (wpAny_bind (wpAny_listPart pu (wpAny_pure ?_))))
  refine wpAny_bind (m := Builtin.List.listItems (.ref l)) ?_
  unfold Builtin.List.listItems
  refine wpAny_bind (wpAny_seqItems ho rfl (wpAny_pure ?_))
  refine wpAny_bind (wpAny_of_eq (sliceIndices_raw lo hi st items.size h0) ?_)
  exact wpAny_bind (wpAny_newObj_type (wpAny_pure ⟨_, rfl, h⟩) (Nat.le_trans (slicePick_size_le items lo hi st) hsz))

theorem slot_list_getitem' : Slot "list" "__getitem__" "list.__getitem__" := slot_list_getitem
theorem k_noseq (w : World) : noSeq (KK w) 303 = true := by kernel_rfl
theorem dom_getitem_slice (T : Stat fs w F) (S : St prog w F H s) {a dx sl : Addr} {xs : List AV} {vl vu vs : Value} {lo hi st : Option Int} {Q : AV → Hp → Prop} (hx : H a = some (.dom 303 dx xs))
    (hs : s.heap.IsSliceOf sl vl vu vs) (pl : IsPart vl lo) (pu : IsPart vu hi) (ps : IsPart vs st) (h0 : st ≠ some 0)
    (h : ∀ items : Array Value, abl items = xs → newP (.list (abl (slicePick items lo hi st))) Q H) :
    wpAny (model prog w) A (getItem (.ref a) (.ref sl)) (fun v s' => ∃ H', St prog w F H' s' ∧ Q (ab v) H') (fun _ _ => False) s := by
  have X := T.inK S
  have L := fun M => St.domType S hx M
  obtain ⟨o, h1, items, m, slt, rfl, h3, h2⟩ := S.get hx
  unfold getItem sequenceKey
  refine wpAny_holding (wpAny_bind (wpAny_bind ((L _).here ?_)))
  refine wpAny_bind ((anyM_none X (k_noseq w)).here ?_)
  rw [if_pos (show (!false) = true from rfl)]
  refine wpAny_pure (wpAny_bind ?_)
  refine dom_special X L (k_dom_getitem w) slot_list_getitem (dom_call (name := "__getitem__") X L slot_list_getitem entry_list_getitem (.inr (by decide +kernel)) (by decide +kernel) (args_list_getitem _ _) ?_)
  have hz : (slicePick items lo hi st).size ≤ big := Nat.le_trans (slicePick_size_le items lo hi st) h2
  refine slice_body (A := A.in1) h1 hs pl pu ps h0 (sizeBig h2) ?_
  have S' := S.alloc (o := listO (slicePick items lo hi st) 0) (x := .list (abl (slicePick items lo hi st))) ⟨_, _, rfl, rfl, hz⟩ rfl rfl
  exact wpAny_pure ⟨_, S', h items h3 _ S.freshH⟩

/-- what a slice picks, in the abstract -/
def slicesP (o : AV) (f : List AV → List AV) (Q : AV → Hp → Prop) (H : Hp) : Prop := match o with
  | .ref a => match H a with
    | some (.list xs) => newP (.list (f xs)) Q H
    | some (.dom C _ xs) => C = 303 ∧ newP (.list (f xs)) Q H
    | _ => False
  | _ => False

theorem slice_new {vl vu vs : Value} (S : St prog w F H s) {Q : Value → Shared → Prop} {E : Value → Shared → Prop} (h : ∀ sl s', St prog w F H s' → s'.heap.IsSliceOf sl vl vu vs → Q (.ref sl) s') : wpAny (model prog w) A (newFields "slice" [vl, vu, vs]) Q E s :=
  wpAny_newObj_type (h _ _ (S.push { cls := .type "slice", data := .fields [vl, vu, vs].toArray }) (Heap.IsSliceOf.new s.heap vl vu vs))

theorem slice_at (T : Stat fs w F) (R : Room fs A n) {value : Expr} {lower upper : Option Expr} {p : Pos} {o vl vu : Value} {lo hi : Option Int} {f : List AV → List AV} {Q : AV → Hp → Prop} (pl : IsPart vl lo) (pu : IsPart vu hi)
    (hf : ∀ items : Array Value, abl (slicePick items lo hi none) = f (abl items)) (h : slicesP (ab o) f Q H) {s1 : Shared} {sl : Addr} (S1 : St prog w F H s1) (hsl : s1.heap.IsSliceOf sl vl vu .none) :
    wpAny (model prog w) A (subscriptTail value (.Slice lower upper none p) o (.ref sl)) (fun v s' => ∃ H', St prog w F H' s' ∧ Q (ab v) H') (fun _ _ => False) s1 := by
  have hs : ∀ a, subscripted (.Slice lower upper none p) false (.ref a) (.ref sl) = operate [.ref sl, .ref a] (getItem (.ref a) (.ref sl)) := fun a => rfl
  unfold slicesP at h
  split at h
  · rename_i a e
    obtain rfl := ab_ref e
    split at h
    · rename_i xs hx
      obtain ⟨items, m, h1, rfl, h2⟩ := S1.list hx
      have hz : (slicePick items lo hi none).size ≤ big := Nat.le_trans (slicePick_size_le items lo hi none) h2
      refine tail_any (listO_is h1).typeIs slot_list_getitem.lookup (wpAny_getItem_list_slice (listO_is h1) hsl pl pu .none (by simp) ?_ (sizeBig h2)) (hs a)
      have S' := S1.alloc (o := listO (slicePick items lo hi none) 0) (x := .list (abl (slicePick items lo hi none))) ⟨_, _, rfl, rfl, hz⟩ rfl rfl
      refine ⟨_, S', ?_⟩
      rw [hf]
      exact h _ S1.freshH
    · rename_i C dx xs hx
      obtain ⟨rfl, h⟩ := h
      have X := T.inK S1
      have L := fun M => St.domType S1 hx M
      unfold subscriptTail
      refine wpAny_bind ?_
      rw [getitemInPython_of_ne (by simp)]
      refine wpAny_bind (wpAny_bind ((L _).here ((looks_findIn X (k_dom_getitem w)).here ?_)))
      refine wpAny_pure ?_
      rw [hs]
      refine wpAny_bind (wpAny_operating (wpAny_mono (dom_getitem_slice T S1 hx hsl pl pu .none (by simp) (Q := Q) ?_) (fun v s' z => wpAny_bind (wpAny_letTemporaryGo (wpAny_pure z))) fun _ _ e => e))
      intro items hi'
      rw [hf, hi']; exact h
    · exact h.elim
  · exact h.elim

end
end Csp

namespace Csp
open PySem PySem.W PySem.Calls PyProof.Rows PySem.SeqAt

theorem ofString_inj {a b : String} (h : Str.ofString a = Str.ofString b) : a = b := by
  rw [Str.ofString_eq_toList, Str.ofString_eq_toList] at h
  have h2 : a.toList.map Char.toNat = b.toList.map Char.toNat := by simpa using h
  have h3 : a.toList = b.toList := by
    generalize a.toList = x at h2
    generalize b.toList = y at h2
    induction x generalizing y with
    | nil => cases y with
      | nil => rfl
      | cons _ _ => cases h2
    | cons c r ih => cases y with
      | nil => cases h2
      | cons d t =>
        simp only [List.map_cons, List.cons.injEq] at h2
        rw [ih t h2.2, Char.ext (UInt32.toNat_inj.mp h2.1)]
  exact String.toList_inj.mp h3

theorem NsOk.get {ents : List DictEntry} {es : List (String × AV)} (h : NsOk ents es) (nm : String) : ∃ r, getL (Str.ofString nm) ents = some r ∧ r.map ab = es.lookup nm := by
  induction h with
  | nil => exact ⟨none, rfl, rfl⟩
  | @cons e r n v l t h1 h2 h3 ih =>
    obtain ⟨q, i1, i2⟩ := ih
    by_cases hn : n = nm
    · subst hn
      refine ⟨some e.val, ?_, ?_⟩
      · unfold getL
        have : e.key.isStr (Str.ofString n) = true := by rw [h1]; simp [Value.isStr]
        simp [List.find?_cons, this]
      · simp [List.lookup_cons, h2]
    · refine ⟨q, ?_, ?_⟩
      · have : e.key.isStr (Str.ofString nm) = false := by
          rw [h1]; simp only [Value.isStr, beq_eq_false_iff_ne]
          exact fun q => hn (ofString_inj q)
        have hr : e.refKey = false := by unfold DictEntry.refKey; rw [h1]
        unfold getL at i1 ⊢
        simp only [List.find?_cons, this, List.any_cons, hr, Bool.false_or]
        exact i1
      · rw [i2, List.lookup_cons, beq_eq_false_iff_ne.mpr (fun q => hn q.symm)]

section
variable {prog : Program} {w : World} {fs : List Env} {A : Around} {F : FF} {H : Hp} {s : Shared} {n : Nat}

/-- a name that is read off an object's own dict -/
def ownNames : List String := ["_solver", "_constraints", "_variables", "_forwardcheck", "_hidden", "_states", "_maxsum", "_multipliers", "_minsum", "_set", "_n", "_exact"]

theorem k_own (w : World) : (instC.all fun C => ownNames.all fun nm => plainGet (KK w) C (Str.ofString nm) && hasDictIn (KK w) C && (findIn (KK w) (.ref C) (Str.ofString nm) == some none)) = true := by
  kernel_rfl
theorem k_own_dom (w : World) : (ownNames.all fun nm => hasDictIn (KK w) 303 && (findIn (KK w) (.ref 303) (Str.ofString nm) == some none)) = true := by
  kernel_rfl
theorem k_dom_ga (w : World) : findIn (KK w) (.ref 303) "__getattribute__" = some (some (.builtin "list.__getattribute__")) := by kernel_rfl
theorem k_dom_gattr (w : World) : findIn (KK w) (.ref 303) "__getattr__" = some none := by kernel_rfl
theorem slot_lga : Slot "list" "__getattribute__" "list.__getattribute__" :=
  .of (owner := "list") (n := "__getattribute__") (by rw [typeLookup_type, builtinLookup_eq_fast]; kernel_rfl) (by decide +kernel) (by decide +kernel) (by decide +kernel)
    (by first | exact .inl (by decide +kernel) | exact .inr (by decide +kernel)) (by rw [isSubtype_type]; kernel_rfl)
theorem entry_lga : entryFor table "list.__getattribute__" = some Builtin.«object.__getattribute__» := by kernel_rfl
theorem args_lga (a b : Value) : argsOk "list.__getattribute__" ⟨[a, b], []⟩ := by unfold argsOk; kernel_rfl
theorem canon_lga : (Manifest.canonical "list.__getattribute__" != "object.__getattribute__") = false := by decide +kernel

theorem getattr_inst (T : Stat fs w F) (S : St prog w F H s) {x C : Addr} {ox : Obj} {ents : List DictEntry} {m : Nat} {es : List (String × AV)} {nm : String} {v : AV} {expr : Bool} {Q : AV → Hp → Prop} (hC : C ∈ instC) (hn : nm ∈ ownNames)
    (I : InstAt s.heap x ox C (some (dictOf ents m))) (N : NsOk ents es) (hv : es.lookup nm = some v) (hp : v.plain = true) (h : Q v H) :
    wpAny (model prog w) A (getAttr (.ref x) (Str.ofString nm) expr) (fun r s' => ∃ H', St prog w F H' s' ∧ Q (ab r) H') (fun _ _ => False) s := by
  have k := List.all_eq_true.mp (List.all_eq_true.mp (k_own w) C hC) nm hn
  simp only [Bool.and_eq_true, beq_iff_eq] at k
  obtain ⟨⟨k1, k2⟩, k3⟩ := k
  obtain ⟨r, g1, g2⟩ := N.get nm
  rw [hv] at g2
  cases r with
  | none => cases g2
  | some u =>
    have hu : ab u = v := Option.some.inj g2
    have hh : handedIn u = true := by
      cases u <;> try rfl
      rw [← hu] at hp; cases hp
    refine get_value (T.inK S) I (plainGet_of k1).1 (findObj_own k2 k3 rfl (by rw [lookIn_dict]; exact g1)) hh ⟨H, S.toks _, ?_⟩
    rw [hu]; exact h

theorem getattr_dom (T : Stat fs w F) (S : St prog w F H s) {x : Addr} {ox : Obj} {ents : List DictEntry} {m : Nat} {es : List (String × AV)} {nm : String} {v : AV} {expr : Bool} {Q : AV → Hp → Prop} (hn : nm ∈ ownNames)
    (I : InstAt s.heap x ox 303 (some (dictOf ents m))) (N : NsOk ents es) (hv : es.lookup nm = some v) (hp : v.plain = true) (h : Q v H) :
    wpAny (model prog w) A (getAttr (.ref x) (Str.ofString nm) expr) (fun r s' => ∃ H', St prog w F H' s' ∧ Q (ab r) H') (fun _ _ => False) s := by
  have k := List.all_eq_true.mp (k_own_dom w) nm hn
  simp only [Bool.and_eq_true, beq_iff_eq] at k
  obtain ⟨k2, k3⟩ := k
  have X := T.inK S
  obtain ⟨r, g1, g2⟩ := N.get nm
  rw [hv] at g2
  cases r with
  | none => cases g2
  | some u =>
    have hu : ab u = v := Option.some.inj g2
    have hh : handedIn u = true := by
      cases u <;> try rfl
      rw [← hu] at hp; cases hp
    have hf : findObj (KK w) 303 (some (dictOf ents m)) (Str.ofString nm) = some (.value u) := findObj_own k2 k3 rfl (by rw [lookIn_dict]; exact g1)
    obtain ⟨hp', g, d, t, os⟩ := s
    have L0 := I.type (M := model prog w)
    have Lf := looks_find (M := model prog w) X I hf
    unfold getAttr getAttrBy
    refine wpAny_bind (wpAny_mkText (wpAny_holding (wpAny_bind (L0.at (wpAny_bind ((looks_findIn X (k_dom_ga w)).at ?_))))))
    dsimp only
    rw [show (onTheHeap (.ref 303) && Value.builtin "list.__getattribute__" == Value.builtin "object.__getattribute__") = false from by decide +kernel, if_neg (by decide)]
    unfold getAttrByItsOwn hookBefore
    rw [if_pos (show onTheHeap (Value.ref 303) = true from rfl)]
    refine wpAny_bind ((looks_findIn X (k_dom_gattr w)).at (wpAny_bind (wpAny_attempt (wpAny_holding ?_))))
    unfold callGetattribute
    rw [show (expr && onTheHeap (Value.builtin "list.__getattribute__")) = false from Bool.and_false _, if_neg (by decide)]
    unfold boundAndCalled
    rw [slot_lga.bind]
    refine wpAny_bind (wpAny_pure ?_)
    show wpAny _ _ (call (.builtin "list.__getattribute__") [.ref x, .str (Str.ofString nm) t]) _ _ _
    refine dom_call (name := "__getattribute__") X (fun M => I.type) slot_lga entry_lga (.inl (by decide +kernel)) (by decide +kernel) (args_lga _ _) ?_
    unfold Builtin.«object.__getattribute__»
    refine wpAny_bind (wpAny_pure (wpAny_bind (wpAny_pure (wpAny_bind (L0.at (wpAny_bind (Lf.at ?_)))))))
    refine wpAny_pure ⟨_, rfl, ?_⟩
    show wpAny _ _ (handedOut u) _ _ _
    rw [handedOut_of hh]
    refine wpAny_pure ⟨H, S.toks _, ?_⟩
    rw [hu]; exact h

/-- an attribute's load -/
theorem tx_attr (T : Stat fs w F) {o : Value} {nm : String} {expr : Bool} {Q : AV → Hp → Prop} (hn : nm ∈ ownNames) (h : attrP (ab o) nm Q H) : TX prog w A F (getAttr o (Str.ofString nm) expr) (fun v => Q (ab v)) H := by
  intro s S
  unfold attrP NmAt at h
  split at h
  · rename_i a e
    obtain rfl := ab_ref e
    split at h
    · rename_i C dx hx
      split at h
      · rename_i v hv
        split at hv
        · rename_i es hd
          obtain ⟨hC, hp, h⟩ := h
          obtain ⟨sl, ents, m, I, N, _⟩ := S.instAt hx hd
          exact getattr_inst T S hC hn I N (Option.some.inj hv) hp h
        · cases hv
      · exact h.elim
    · rename_i C dx xs hx
      split at h
      · rename_i v hv
        split at hv
        · rename_i es hd
          obtain ⟨rfl, hp, h⟩ := h
          obtain ⟨o1, h1, items, m1, sl, rfl, _, _⟩ := S.get hx
          obtain ⟨o2, h2, ents, m, rfl, N, _⟩ := S.get hd
          exact getattr_dom T S hn ⟨h1, rfl, rfl, h2⟩ N (Option.some.inj hv) hp h
        · cases hv
      · exact h.elim
    · exact h.elim
  · exact h.elim
end
end Csp

namespace Csp
open PySem PySem.W PySem.Calls PyProof.Rows PySem.SeqAt

section
variable {prog : Program} {w : World} {fs : List Env} {A : Around} {F : FF} {H : Hp} {s : Shared} {n : Nat}

def Kept (prog : Program) (w : World) (F : FF) (f : Value) (H : Hp) : Prop := ∀ s, St prog w F H s → ∃ k, Looks (model prog w) s.heap (keeperOf f) k

theorem tx_evalArgs {f : Value} {args : List (Bool × Sem Value)} {Q : Args → Hp → Prop} (hplain : args.any (·.1) = false)
    (h : TX prog w A F (spliced args) (fun vs H' => Q ⟨vs, []⟩ H') H) : TX prog w A F (evalArgs f true args []) Q H := by
  intro s S
  match args, hplain, h with
  | [], _, h =>
    unfold evalArgs
    show wpAny _ _ (spliced [] >>= _) _ _ s
    refine wpAny_bind (wpAny_mono (h s S) (fun vs s' h' => ?_) fun _ _ x => x)
    refine wpAny_holding ?_
    exact wpAny_bind (wpAny_pure (wpAny_bind (wpAny_pure (wpAny_pure h'))))
  | (false, x) :: rest, _, h => exact evalArgs_plain (h s S)
  | (true, x) :: rest, hp, _ => simp at hp

theorem tx_callWith {pos : Pos} {f : Value} {first : List Value} {args : List (Bool × Sem Value)} {Q : Value → Hp → Prop} (hplain : args.any (·.1) = false)
    (h : TX prog w A F (spliced args) (fun vs H' => Kept prog w F f H' ∧ TX prog w A F (call f (first ++ vs)) Q H') H) : TX prog w A F (callWith pos f first args []) Q H := by
  unfold callWith
  refine TX.bind (TX.holding (TX.mono (tx_evalArgs (Q := fun a H' => a.kw = [] ∧ Kept prog w F f H' ∧ TX prog w A F (call f (first ++ a.pos)) Q H') hplain (TX.mono h fun vs H' q => ⟨rfl, q⟩)) fun a H' q => ?_))
  obtain ⟨hkw, hk, hc⟩ := q
  refine TX.bind (TX.standAt ?_)
  intro s S
  obtain ⟨k, L⟩ := hk s S
  simp only [hplain, List.any_nil, Bool.or_false, hkw]
  refine wpAny_bind (L.here ?_)
  have tail : ∀ (t : Sem Value), TX prog w A F t Q H' → wpAny (model prog w) A (t >>= fun r => holding [r] point >>= fun _ => pure r) (fun a s' => ∃ H', St prog w F H' s' ∧ Q a H') (fun _ _ => False) s :=
    fun t ht => TX.bind (m := t) (TX.mono ht fun r H'' q => TX.bind (m := holding [r] point) (f := fun _ => Pure.pure r) (TX.holding (TX.point (TX.pure q)))) s S
  have marked (mk : Value) : TX prog w A F (callMarked mk f (first ++ a.pos) []) Q H' := by
    intro s S; unfold callMarked; exact Calls.wpAny_keep (hc s S)
  cases k <;> dsimp only <;> first | exact tail _ hc | exact tail _ (TX.operate hc) | (split <;> first | exact tail _ hc | exact tail _ (marked _))
end
end Csp

namespace Csp
open PySem PySem.W PySem.Calls PyProof.Rows PySem.SeqAt

def BM.idOf : BM → String
  | .lAppend => "list.append" | .lPop => "list.pop"
  | .dCopy => "dict.copy" | .dValues => "dict.values" | .domRemove => "list.remove" | .domExtend => "list.extend"

section
variable {prog : Program} {w : World} {fs : List Env} {A : Around} {F : FF} {H : Hp} {s : Shared} {n : Nat}

theorem k_meth (w : World) : (methL.all fun p => (findIn (KK w) (.ref p.1.1) (Str.ofString p.1.2) == some (some (.ref p.2))) && (typeIn (KK w) (.ref p.2) == some (.type "function")) && plainGet (KK w) p.1.1 (Str.ofString p.1.2) && keepIn (KK w) (.ref p.2)) = true := by
  kernel_rfl
theorem k_methD (w : World) : (methD.all fun p => (findIn (KK w) (.ref 303) (Str.ofString p.1) == some (some (.ref p.2))) && (typeIn (KK w) (.ref p.2) == some (.type "function")) && keepIn (KK w) (.ref p.2)) = true := by
  kernel_rfl
theorem k_336 (w : World) : keepIn (KK w) (.ref 336) = true := by kernel_rfl

theorem mem_lookup {α β : Type} [BEq α] [LawfulBEq α] : ∀ {l : List (α × β)} {k : α} {v : β}, l.lookup k = some v → (k, v) ∈ l
  | (a, b) :: r, k, v, h => by
    rw [List.lookup_cons] at h
    cases hb : k == a with
    | true => rw [hb] at h; cases h; rw [beq_iff_eq.mp hb]; exact List.mem_cons_self
    | false => rw [hb] at h; exact List.mem_cons_of_mem _ (mem_lookup h)

theorem kept_K (T : Stat fs w F) {f : Value} (h : keepIn (KK w) f = true) : Kept prog w F f H := fun s S =>
  let ⟨k, _, L⟩ := looks_keep h (T.inK S); ⟨k, L⟩
theorem kept_bi {id : String} : Kept prog w F (.builtin id) H := fun s S => ⟨.machine, .now⟩

/-- what a method's lookup gives -/
def MeOk (me : Me) (ov : Value) (p : Value × List Value) : Prop := match me with
  | .py f => p = (.ref f, [ov])
  | .bi b => p = (.builtin b.idOf, [ov])
  | .fn f => p = (.ref f, [])
  | .xb id => p = (.builtin id, [ov])
  | .linit => p = (.builtin "list.__init__", [])

theorem method_dom {x : Addr} {ox : Obj} {ents : List DictEntry} {m : Nat} {es : List (String × AV)} {nm : String} {f : Value} {pl : Sem Bool} {E : Value → Shared → Prop} {Q : Value × List Value → Shared → Prop} (X : (KK w).In s.heap)
    (I : InstAt s.heap x ox 303 (some (dictOf ents m))) (N : NsOk ents es) (hv : es.lookup nm = none) (hf : findIn (KK w) (.ref 303) (Str.ofString nm) = some (some f))
    (ht : ∀ M, Looks M s.heap (typeOf f) (.type "function") ∨ Looks M s.heap (typeOf f) (.type "method_descriptor")) (h : Q (f, [.ref x]) s) :
    wpAny (model prog w) A (getMethod (.ref x) (Str.ofString nm) pl) Q E s := by
  unfold getMethod specialOf
  refine wpAny_bind (wpAny_bind (I.type.here ((looks_findIn X (k_dom_ga w)).here ?_)))
  dsimp only
  rw [canon_lga, if_neg (by decide)]
  refine wpAny_bind (wpAny_bind (I.type.here ((looks_findIn X (k_dom_gattr w)).here ?_)))
  refine wpAny_bind (wpAny_bind (I.type.here ((looks_findIn X hf).here ?_)))
  have hd := I.dict
  have rest : wpAny (model prog w) A (do
      if let .ref a := Value.ref x then
        if let some d := (← loadPart a (some headPart)).dict then
          if (← nsGet d (Str.ofString nm)).isSome then return ← (do return (← getAttr (.ref x) (Str.ofString nm), ([] : List Value)))
      rule "call.method-form"
      return (f, [Value.ref x])) Q E s := by
    refine wpAny_bind (wpAny_loadPart I.at_ ?_)
    cases e : ox.dict with
    | none => exact wpAny_bind (wpAny_rule (wpAny_pure h))
    | some dx =>
      rw [e] at hd
      obtain ⟨r, g1, g2⟩ := N.get nm
      rw [hv] at g2
      have hr : r = none := by cases r <;> simp_all
      subst hr
      refine wpAny_bind (wpAny_bind (wpAny_loadPart hd ?_))
      rw [nsLook_of (show lookIn (Str.ofString nm) (dictOf ents m) = some none by rw [lookIn_dict]; exact g1)]
      refine wpAny_pure ?_
      exact wpAny_bind (wpAny_rule (wpAny_pure h))
  rcases ht (model prog w) with L | L
  · refine wpAny_bind (L.here ?_)
    rw [if_neg (by decide +kernel)]
    exact rest
  · refine wpAny_bind (L.here ?_)
    rw [if_neg (by decide +kernel)]
    exact rest

theorem k_pp (w : World) : specialIn (KK w) (.ref 347) "__getattribute__" = some (some (.builtin "type.__getattribute__")) ∧ readsIn (KK w) 347 (.type "type") = true ∧ findCls (KK w) (.ref 347) (.type "type") "preProcess" = some (.val (.ref 336)) := by
  refine ⟨?_, ?_, ?_⟩ <;> kernel_rfl

theorem k_linit (w : World) : findCls (KK w) (.type "list") (.type "type") "__init__" = some (.val (.builtin "list.__init__")) := by kernel_rfl
theorem ty_list : typeOf (.type "list") = pure (.type "type") := by rfl
theorem tx_listInit (T : Stat fs w F) (S : St prog w F H s) {pl : Sem Bool} {Q : Value × List Value → Hp → Prop} (q : Q (.builtin "list.__init__", []) H) :
    wpAny (model prog w) A (getMethod (.type "list") (Str.ofString "__init__") pl) (fun a s' => ∃ H', St prog w F H' s' ∧ Q a H') (fun _ _ => False) s := by
  have X := T.inK S
  have hstub : opaqueClassAbove (.type "list") = pure none := by unfold opaqueClassAbove; dsimp only; rw [show Manifest.isStub "list" = false from by decide +kernel]; rfl
  have L0 : Looks (model prog w) s.heap (typeOf (.type "list")) (.type "type") := Looks.of_pure ty_list
  have hg : findIn (KK w) (.type "type") "__getattribute__" = some (some (.builtin "type.__getattribute__")) := by rw [← type_tga]; rfl
  unfold getMethod specialOf
  refine wpAny_bind (wpAny_bind (L0.here ((looks_findIn X hg).here ?_)))
  dsimp only
  rw [if_pos canon_tga]
  refine wpAny_bind (wpAny_mono (Q := fun v s' => ∃ H', St prog w F H' s' ∧ Q (v, []) H') (E := fun _ _ => False) ?_ (fun _ _ z => wpAny_pure z) fun _ _ z => z)
  have LO : Looks (model prog w) s.heap (opaqueClassAbove (.type "list")) none := Looks.of_pure hstub
  refine cls_open X LO L0 hg (looks_hook X (r := none) (by rfl)) (by show subIn (KK w) _ _ = _; rfl) (k_linit w)
    (wpAny_pure (by show wpAny _ _ (handedOut _) _ _ _; rw [handedOut_of rfl]; exact wpAny_pure ⟨H, S.toks _, q⟩))

theorem tx_getMethod (T : Stat fs w F) {ov : Value} {nm : String} {me : Me} {pl : Sem Bool} {Q : Value × List Value → Hp → Prop} (h : methOf H (ab ov) nm = some me) (q : ∀ p, MeOk me ov p → Q p H) : TX prog w A F (getMethod ov (Str.ofString nm) pl) Q H := by
  intro s S
  have X := T.inK S
  unfold methOf at h
  split at h
  · rename_i v e
    split at h
    · rename_i hv
      obtain ⟨hv, rfl⟩ := hv
      cases h
      have e2 : ov = .type "list" := by
        have e3 : v = .type "list" := by
          unfold isListType at hv
          split at hv
          · rw [beq_iff_eq.mp hv]
          · cases hv
        subst e3
        cases ov <;> simp [ab] at e
        subst e; rfl
      subst e2
      exact tx_listInit T S (q _ rfl)
    · cases h
  · rename_i a e
    obtain rfl := ab_ref e
    split at h
    · rename_i ha
      obtain ⟨rfl, rfl⟩ := ha
      cases h
      obtain ⟨k1, k2, k3⟩ := k_pp w
      refine method_cls X k1 (cls_value X k2 k3 rfl ⟨H, S.toks _, q _ rfl⟩)
    · split at h
      · rename_i xs hx
        obtain ⟨items, m, h1, rfl, h2⟩ := S.list hx
        have key : ∀ {id : String}, Slot "list" (Str.ofString nm) id → typeOf (.builtin id) = pure (.type "method_descriptor") → MeOk me (.ref a) (.builtin id, [.ref a]) →
            wpAny (model prog w) A (getMethod (.ref a) (Str.ofString nm) pl) (fun a s' => ∃ H', St prog w F H' s' ∧ Q a H') (fun _ _ => False) s := fun sl ty hq =>
          getMethod_builtin (T := "list") ⟨_, h1, rfl⟩ PySem.F.plainAttrs_list sl ty (fun b e => by cases e; exact ⟨_, h1, rfl⟩) ⟨H, S, q _ hq⟩
        unfold listMeth at h
        split at h
        · cases h; exact key PySem.F.slot_list_append PySem.F.type_list_append rfl
        · cases h; exact key PySem.F.slot_list_pop PySem.F.type_list_pop rfl
        · cases h; exact key PySem.F.slot_list_sort PySem.F.type_list_sort rfl
        · cases h; exact key PySem.F.slot_list_remove PySem.F.type_list_remove rfl
        · cases h
      · rename_i es ep hx
        obtain ⟨kvs, h1, rfl, h2⟩ := S.dict hx
        obtain ⟨o, ents, b1, b2, b3, b4, b5, b6⟩ := h1
        have key : ∀ {id : String}, Slot "dict" (Str.ofString nm) id → typeOf (.builtin id) = pure (.type "method_descriptor") → MeOk me (.ref a) (.builtin id, [.ref a]) →
            wpAny (model prog w) A (getMethod (.ref a) (Str.ofString nm) pl) (fun a s' => ∃ H', St prog w F H' s' ∧ Q a H') (fun _ _ => False) s := fun sl ty hq =>
          getMethod_builtin (T := "dict") ⟨_, b1, b2.1⟩ PySem.F.plainAttrs_dict sl ty (fun b e => by cases e; exact ⟨_, b1, b2.2.1⟩) ⟨H, S, q _ hq⟩
        unfold dictMeth at h
        split at h
        · cases h; exact key PySem.F.slot_dict_copy PySem.F.type_dict_copy rfl
        · cases h; exact key PySem.F.slot_dict_values PySem.F.type_dict_values rfl
        · cases h
      · rename_i C dx hx
        unfold NmAt at h
        split at h
        · rename_i hv
          split at hv
          · rename_i es hd
            obtain ⟨sl, ents, m, I, N, _⟩ := S.instAt hx hd
            cases hm : methC C nm with
            | none => rw [hm] at h; cases h
            | some f =>
              rw [hm] at h; cases h
              have k := List.all_eq_true.mp (k_meth w) _ (mem_lookup hm)
              simp only [Bool.and_eq_true, beq_iff_eq] at k
              obtain ⟨⟨⟨k1, k2⟩, k3⟩, _⟩ := k
              refine method_fn X I (plainGet_of k3).1 (plainGet_of k3).2 k1 k2 ?_ ⟨H, S, q _ rfl⟩
              obtain ⟨r, g1, g2⟩ := N.get nm
              rw [Option.some.inj hv] at g2
              have hr : r = none := by cases r <;> simp_all
              subst hr
              show (lookIn _ (dictOf ents m)).map _ = _
              rw [lookIn_dict, g1]; rfl
          · cases hv
        · cases h
      · rename_i C dx xs hx
        split at h
        · rename_i hC
          subst hC
          unfold NmAt at h
          split at h
          · rename_i hv
            split at hv
            · rename_i es hd
              obtain ⟨o1, h1, items, m1, sl, rfl, _, _⟩ := S.get hx
              obtain ⟨o2, h2, ents, m, rfl, N, _⟩ := S.get hd
              have I : InstAt s.heap a ⟨.ref 303, some dx, .seq items m1, sl⟩ 303 (some (dictOf ents m)) := ⟨h1, rfl, rfl, h2⟩
              split at h
              · rename_i f hm
                cases h
                have k := List.all_eq_true.mp (k_methD w) _ (mem_lookup hm)
                simp only [Bool.and_eq_true, beq_iff_eq] at k
                obtain ⟨⟨k1, k2⟩, _⟩ := k
                exact method_dom X I N (Option.some.inj hv) k1 (fun M => .inl (looks_typeIn X k2)) ⟨H, S, q _ rfl⟩
              · have fin : ∀ {id : String}, findIn (KK w) (.ref 303) (Str.ofString nm) = some (some (.builtin id)) → typeOf (.builtin id) = pure (.type "method_descriptor") → MeOk me (.ref a) (.builtin id, [.ref a]) →
                    wpAny (model prog w) A (getMethod (.ref a) (Str.ofString nm) pl) (fun a s' => ∃ H', St prog w F H' s' ∧ Q a H') (fun _ _ => False) s := fun k1 ty hq =>
                  method_dom X I N (Option.some.inj hv) k1 (fun M => .inr (by rw [ty]; exact .now)) ⟨H, S, q _ hq⟩
                unfold domMeth at h
                split at h
                · cases h; exact fin (k_dom_remove w) PySem.F.type_list_remove rfl
                · cases h; exact fin (k_dom_extend w) PySem.F.type_list_extend rfl
                · cases h
            · cases hv
          · cases h
        · cases h
      · cases h
  · cases h
end
end Csp

namespace Csp
open PySem PySem.W PySem.Calls PyProof.Rows PySem.SeqAt

section
variable {prog : Program} {w : World} {fs : List Env} {A : Around} {F : FF} {H : Hp} {s : Shared} {n : Nat}

/-- an owned object with items: a list or a Domain -/
inductive IsSeq : AO → List AV → (List AV → AO) → Prop
  | list (xs) : IsSeq (.list xs) xs .list
  | dom (dx xs) : IsSeq (.dom 303 dx xs) xs (.dom 303 dx)
  | dom0 (xs) : IsSeq (.dom0 303 xs) xs (.dom0 303)

theorem abl_eq {a : Array Value} {l : List AV} : abl a = l ↔ a.toList.map ab = l := Iff.rfl

theorem IsSeq.get {x : AO} {xs : List AV} {mk : List AV → AO} {a : Addr} (h : IsSeq x xs mk) (S : St prog w F H s) (hx : H a = some x) :
    ∃ C od items m sl, s.heap.get? a = some ⟨C, od, .seq items m, sl⟩ ∧ abl items = xs ∧ items.size ≤ big ∧ ((∃ ys, x = .list ys) → C = .type "list" ∧ od = none ∧ sl = #[]) ∧ ((∀ ys, x ≠ .list ys) → C = .ref 303) ∧
      ∀ (f : Array Value → Array Value) (t : Nat), (f items).size ≤ big → St prog w F (upd H a (mk (abl (f items)))) { s with heap := s.heap.update a (Obj.mapSeq f), toks := t } := by
  obtain ⟨o, h1, h2⟩ := S.get hx
  cases h with
  | list =>
    obtain ⟨items, m, rfl, h3, h4⟩ := h2
    refine ⟨_, _, items, m, _, h1, h3, h4, fun _ => ⟨rfl, rfl, rfl⟩, fun q => absurd rfl (q _), fun f t hz => ?_⟩
    exact S.set (y := .list (abl (f items))) hx rfl (Heap.SameBut.update ..).extBut (Heap.get?_update_self _ h1 rfl) ⟨f items, if (f items).size == items.size then m else m + 1, rfl, rfl, hz⟩ rfl t
  | dom dx xs =>
    obtain ⟨items, m, sl, rfl, h3, h4⟩ := h2
    refine ⟨_, _, items, m, sl, h1, h3, h4, fun q => (by obtain ⟨_, q⟩ := q; cases q), fun _ => rfl, fun f t hz => ?_⟩
    exact S.set (y := .dom 303 dx (abl (f items))) hx rfl (Heap.SameBut.update ..).extBut (Heap.get?_update_self _ h1 rfl) ⟨f items, if (f items).size == items.size then m else m + 1, sl, rfl, rfl, hz⟩ rfl t
  | dom0 xs =>
    obtain ⟨items, m, sl, rfl, h3, h4⟩ := h2
    refine ⟨_, _, items, m, sl, h1, h3, h4, fun q => (by obtain ⟨_, q⟩ := q; cases q), fun _ => rfl, fun f t hz => ?_⟩
    exact S.set (y := .dom0 303 (abl (f items))) hx rfl (Heap.SameBut.update ..).extBut (Heap.get?_update_self _ h1 rfl) ⟨f items, if (f items).size == items.size then m else m + 1, sl, rfl, rfl, hz⟩ rfl t

theorem big_line : big ≤ sizeLine := by unfold big; rw [sizeLine_eq]; decide
theorem big_line1 {k : Nat} (h : k ≤ big) : k ≤ sizeLine + 1 := Nat.le_succ_of_le (Nat.le_trans h big_line)

theorem isListObj {h : Heap} {a : Addr} {C : Value} {od : Option Addr} {items : Array Value} {m : Nat} {sl : Array (Option Value)} (h1 : h.get? a = some ⟨C, od, .seq items m, sl⟩) (e : C = .type "list" ∧ od = none ∧ sl = #[]) :
    h.get? a = some { cls := .type "list", dict := none, data := .seq items m, slots := #[] } := by
  obtain ⟨rfl, rfl, rfl⟩ := e; exact h1

theorem tx_append {a : Addr} {xs : List AV} {x : Value} {Q : AV → Hp → Prop} (hx : H a = some (.list xs)) (hz : xs.length < big) (h : Q .none (upd H a (.list (xs ++ [ab x])))) :
    TX prog w A F (call (.builtin "list.append") [.ref a, x]) (fun v => Q (ab v)) H := by
  intro s S
  obtain ⟨C, od, items, m, sl, h1, rfl, h3, h4, _, up⟩ := (IsSeq.list xs).get S hx
  have h1' := isListObj h1 (h4 ⟨_, rfl⟩)
  rw [abl_length] at hz
  refine call_meets PySem.F.slot_list_append ⟨_, h1', rfl⟩ PySem.F.entry_list_append (PySem.F.args_list_append_2 _ _) (PySem.list_append a items m x (Nat.le_trans h3 big_line)) ⟨h1', ?_⟩
  refine ⟨_, up (·.push x) _ (by rw [Array.size_push]; exact hz), ?_⟩
  have : abl (items.push x) = abl items ++ [ab x] := by simp [abl]
  rw [this]; exact h

theorem map_eraseIdx' {α β : Type} (f : α → β) : ∀ (l : List α) (i : Nat), (l.eraseIdx i).map f = (l.map f).eraseIdx i
  | [], _ => rfl
  | x :: r, 0 => rfl
  | x :: r, i + 1 => by rw [List.eraseIdx_cons_succ, List.map_cons, map_eraseIdx' f r i, List.map_cons, List.eraseIdx_cons_succ]
theorem eraseIdx_out {α : Type} : ∀ (l : List α) (i : Nat), l.length ≤ i → l.eraseIdx i = l
  | [], _, _ => rfl
  | x :: r, 0, h => absurd h (by simp)
  | x :: r, i + 1, h => by rw [List.eraseIdx_cons_succ, eraseIdx_out r i (by simpa using h)]
theorem abl_erase (items : Array Value) (i : Nat) : abl (items.eraseIdxIfInBounds i) = (abl items).eraseIdx i := by
  unfold Array.eraseIdxIfInBounds
  split
  · simp [abl, map_eraseIdx']
  · rename_i h
    rw [eraseIdx_out]
    rw [abl_length]; omega
theorem dropLast_erase {α : Type} : ∀ (l : List α), l.dropLast = l.eraseIdx (l.length - 1)
  | [] => rfl
  | [x] => rfl
  | x :: y :: r => by
    have := dropLast_erase (y :: r)
    rw [List.dropLast_cons_cons, this]
    rfl

theorem tx_pop {a : Addr} {xs : List AV} {v : AV} {Q : AV → Hp → Prop} (hx : H a = some (.list xs)) (hv : xs.getLast? = some v) (h : Q v (upd H a (.list xs.dropLast))) :
    TX prog w A F (call (.builtin "list.pop") [.ref a]) (fun v => Q (ab v)) H := by
  intro s S
  obtain ⟨C, od, items, m, sl, h1, rfl, h3, h4, _, up⟩ := (IsSeq.list xs).get S hx
  have h1' := isListObj h1 (h4 ⟨_, rfl⟩)
  have hl : items[items.size - 1]?.map ab = some v := by
    rw [← hv, List.getLast?_eq_getElem?, abl_get, abl_length]
  obtain ⟨y, hy, rfl⟩ := Option.map_eq_some_iff.mp hl
  refine call_meets PySem.F.slot_list_pop ⟨_, h1', rfl⟩ PySem.F.entry_list_pop (PySem.F.args_list_pop_1 _) (PySem.MeetsSeq.list_pop_last a items m y hy (Nat.le_trans h3 big_line)) ⟨h1', ?_⟩
  have hsz : (items.eraseIdxIfInBounds (items.size - 1)).size ≤ big := Nat.le_trans (PySem.MeetsSeq.size_erased items _) h3
  refine ⟨_, up (·.eraseIdxIfInBounds (items.size - 1)) _ hsz, ?_⟩
  have : abl (items.eraseIdxIfInBounds (items.size - 1)) = (abl items).dropLast := by
    rw [abl_erase, dropLast_erase, abl_length]
  rw [this]; exact h

theorem tx_dictCopy (T : Stat fs w F) {a : Addr} {es : List (Int × AV)} {ep : Nat} {Q : AV → Hp → Prop} (hx : H a = some (.dict es ep)) (h : ∀ b ep, Fresh H b → Q (.ref b) (upd H b (.dict es ep))) :
    TX prog w A F (call (.builtin "dict.copy") [.ref a]) (fun v => Q (ab v)) H := by
  intro s S
  obtain ⟨kvs, h1, rfl, h2⟩ := S.dict hx
  have lo := S.notMods T hx rfl
  refine call_meetsIn PySem.F.slot_dict_copy h1.dictOf.typeIs PySem.F.entry_dict_copy (PySem.F.args_dict_copy_1 _) (meets_dict_copy (intKind prog w) a lo) ⟨kvs, h1.dictOf, Nat.le_trans h2 big_line, fun h' hd _ hk => ?_⟩
  obtain ⟨o, ents, ep', b1, b2, b3, b4, b5, b6⟩ := hd
  exact ⟨_, S.new (x := .dict (kvs.map fun (p : Int × Value) => (p.1, ab p.2)) ep') (Nat.le_refl _) hk b1 ⟨kvs, ents, b2, b3, b4, b5, b6, rfl, h2⟩ rfl _, h _ _ S.freshH⟩

theorem tx_dictValues (T : Stat fs w F) {a : Addr} {es : List (Int × AV)} {ep : Nat} {Q : AV → Hp → Prop} (hx : H a = some (.dict es ep)) (h : newP (.dvals a) Q H) :
    TX prog w A F (call (.builtin "dict.values") [.ref a]) (fun v => Q (ab v)) H := by
  intro s S
  obtain ⟨kvs, h1, rfl, h2⟩ := S.dict hx
  have lo := S.notMods T hx rfl
  refine call_meetsIn PySem.F.slot_dict_values h1.dictOf.typeIs PySem.F.entry_dict_values (PySem.F.args_dict_values_1 _) (meets_dict_values (intKind prog w) a lo) ⟨⟨kvs, h1.dictOf⟩, ?_⟩
  exact ⟨_, S.alloc (x := .dvals a) ⟨rfl, rfl⟩ rfl rfl, h _ S.freshH⟩

/-- a call of one of list's methods upon a Domain, whatever its end -/
theorem dom_call' {id name : String} {nm : Str} {B : Builtin} {a : Addr} {rest : List Value} {Q : Value → Shared → Prop} {E : Value → Shared → Prop} (X : (KK w).In s.heap) (L : ∀ M, Looks M s.heap (typeOf (.ref a)) (.ref 303))
    (slot : Slot "list" nm id) (entry : entryFor table id = some B) (hk : builtinKind id = some .slot ∨ builtinKind id = some .method) (hs : splitId id = some ("list", name)) (ha : argsOk id ⟨.ref a :: rest, []⟩)
    (hc : wpAny (model prog w) A.in1 (B ⟨.ref a :: rest, []⟩) (fun fin s' => match fin with | .done f => (match (Except.ok f : Result) with | .ok (.ret v) => Q v s' | .ok _ => False | .error e => E e s') | .again c' => c'.quiet = true ∧ codeAny (model prog w) A c' (fun r s' => match r with | .ok (.ret v) => Q v s' | .ok _ => False | .error e => E e s') s') E s) : wpAny (model prog w) A (call (.builtin id) (.ref a :: rest)) Q E s := by
  refine wpAny_call (codeAny_call_builtin slot.plain entry ?_)
  rcases hk with hk | hk
  · exact check_slot hk hs (looks_dom_inst X (L _)) ha hc
  · exact check_meth hk hs (looks_dom_inst X (L _)) ha hc

/-- the loop of list.remove: `e j` says whether entry j answers -/
theorem remove_loop {a : Addr} {x : AO} {xs : List AV} {mk : List AV → AO} {v : Value} (I : IsSeq x xs mk) (hx : H a = some x) (e : Nat → Bool) {j : Nat}
    (he : ∀ i y (hi : i < xs.length), i ≤ j → ab y = xs[i] → TX prog w A.in1 F (eqBool y v) (fun r H' => H' = H ∧ r = e i) H) {Q : AV → Hp → Prop}
    (hj : j < xs.length) (hit : e j = true) (h : Q .none (upd H a (mk (xs.eraseIdx j)))) {E : Value → Shared → Prop} (k : Nat) :
    ∀ i : Nat, j - i = k → i ≤ j → (∀ m, i ≤ m → m < j → e m = false) → ∀ s, St prog w F H s →
      codeAny (model prog w) A (.builtin "list.remove.loop" ⟨[.ref a, v, rawInt i], []⟩) (wants (fun v s' => ∃ H', St prog w F H' s' ∧ Q (ab v) H') (fun _ _ => False)) s := by
  induction k with
  | zero =>
    intro i hk hij hno s S
    have hij' : i = j := by omega
    subst hij'
    obtain ⟨C, od, items, m, sl, h1, rfl, h3, _, _, _⟩ := I.get S hx
    refine codeAny_builtin PySem.MeetsSeq.entry_remove_loop ?_
    rw [Around.under_plainId PySem.MeetsSeq.plain_remove_loop _]
    have hj' : i < items.size := by rw [← abl_length]; exact hj
    have hi : items[((i : Nat) : Int).toNat]? = some items[i] := by simp [hj']
    show wpAny _ _ (Builtin.List.listItems (.ref a) >>= _) _ _ s
    unfold Builtin.List.listItems
    refine wpAny_bind (wpAny_bind (wpAny_seqItems h1 rfl (wpAny_pure ?_)))
    rw [hi]
    refine wpAny_bind (wpAny_mono (he i items[i] hj (Nat.le_refl _) (by simp [abl]) s S) (fun r s' z => ?_) fun _ _ e => e.elim)
    obtain ⟨H', S', rfl, rfl⟩ := z
    rw [hit, if_pos rfl]
    obtain ⟨C', od', items', m', sl', h1', e', h3', _, _, up'⟩ := I.get S' hx
    have hz := Nat.le_trans (PySem.MeetsSeq.size_erased items' (((i : Nat) : Int).toNat)) h3'
    refine wpAny_bind (m := updateSeq a _) (wpAny_updateSeq h1' rfl (hz := Nat.le_trans h3' big_line) (_hz' := big_line1 hz) ?_)
    refine wpAny_pure ⟨_, up' _ _ hz, ?_⟩
    have e2 : abl (items'.eraseIdxIfInBounds (((i : Nat) : Int).toNat)) = (abl items).eraseIdx i := by
      rw [abl_erase, e']; rfl
    rw [e2]; exact h
  | succ k ih =>
    intro i hk hij hno s S
    have hij' : i < j := by omega
    obtain ⟨C, od, items, m, sl, h1, e1, h3, _, _, _⟩ := I.get S hx
    refine codeAny_builtin PySem.MeetsSeq.entry_remove_loop ?_
    rw [Around.under_plainId PySem.MeetsSeq.plain_remove_loop _]
    have hj' : i < items.size := by rw [← abl_length, e1]; omega
    have hi : items[((i : Nat) : Int).toNat]? = some items[i] := by simp [hj']
    have hc : ((i : Int) + 1) = ((i + 1 : Nat) : Int) := by push_cast; rfl
    show wpAny _ _ (Builtin.List.listItems (.ref a) >>= _) _ _ s
    unfold Builtin.List.listItems
    refine wpAny_bind (wpAny_bind (wpAny_seqItems h1 rfl (wpAny_pure ?_)))
    rw [hi]
    refine wpAny_bind (wpAny_mono (he i items[i] (by omega) hij (by subst e1; simp [abl]) s S) (fun r s' z => ?_) fun _ _ e => e.elim)
    obtain ⟨H', S', rfl, rfl⟩ := z
    rw [hno i (Nat.le_refl _) hij', if_neg (by decide)]
    refine wpAny_pure ⟨plainId_quiet PySem.MeetsSeq.plain_remove_loop _, ?_⟩
    rw [hc]
    exact ih (i + 1) (by omega) (by omega) (fun m h1 h2 => hno m (by omega) h2) s' S'
end
end Csp

namespace Csp
open PySem PySem.W PySem.Calls PyProof.Rows PySem.SeqAt

section
variable {prog : Program} {w : World} {fs : List Env} {A : Around} {F : FF} {H : Hp} {s : Shared} {n : Nat}

theorem kind_remove : builtinKind "list.remove" = some .method := by decide +kernel
theorem kind_extend : builtinKind "list.extend" = some .method := by decide +kernel
theorem split_remove : splitId "list.remove" = some ("list", "remove") := by decide +kernel
theorem split_extend : splitId "list.extend" = some ("list", "extend") := by decide +kernel

theorem eraseInt_idx : ∀ (xs : List AV) (i : Int) (h : xs.any (fun x => x.num == i) = true), ∃ j, ∃ hj : j < xs.length, (xs[j].num == i) = true ∧ (∀ m (hm : m < xs.length), m < j → (xs[m].num == i) = false) ∧ eraseInt xs i = xs.eraseIdx j
  | [], _, h => by simp at h
  | x :: r, i, h => by
    by_cases hx : x.num = i
    · refine ⟨0, by simp, by simpa using hx, fun m hm h0 => absurd h0 (by omega), ?_⟩
      unfold eraseInt
      rw [if_pos hx]; rfl
    · have h' : r.any (fun x => x.num == i) = true := by
        rw [List.any_cons] at h
        simpa [hx] using h
      obtain ⟨j, hj, a, b, c⟩ := eraseInt_idx r i h'
      refine ⟨j + 1, by simpa using hj, by simpa using a, fun m hm h0 => ?_, ?_⟩
      · cases m with
        | zero => simpa using hx
        | succ m => simpa using b m (by simpa using hm) (by omega)
      · unfold eraseInt
        rw [if_neg hx, c]; rfl

theorem tx_domRemove (T : Stat fs w F) {a dx : Addr} {xs : List AV} {v : Value} {i : Int} {Q : AV → Hp → Prop} (hv : ab v = .int i) (hx : H a = some (.dom 303 dx xs)) (hi : xs.all AV.isInt = true) (hm : xs.any (fun x => x.num == i) = true) (h : Q .none (upd H a (.dom 303 dx (eraseInt xs i)))) :
    TX prog w A F (call (.builtin "list.remove") [.ref a, v]) (fun v => Q (ab v)) H := by
  intro s S
  obtain ⟨t, rfl⟩ := ab_int hv
  obtain ⟨j, hj, e1, e2, e3⟩ := eraseInt_idx xs i hm
  refine dom_call' (T.inK S) (fun M => St.domType S hx M) PySem.F.slot_list_remove PySem.F.entry_list_remove (.inr kind_remove) split_remove (PySem.F.args_list_remove_2 _ _) ?_
  obtain ⟨hp, g, d, tk, os⟩ := s
  wp_walk
  refine ⟨plainId_quiet PySem.MeetsSeq.plain_remove_loop _, ?_⟩
  refine remove_loop (IsSeq.dom dx xs) hx (fun m => if hm : m < xs.length then xs[m].num == i else false) (fun m y hm _ hy => ?_) hj (by rw [dif_pos hj]; exact e1) (by rw [← e3]; exact h) (E := fun _ _ => False) _ 0 rfl (Nat.zero_le _) (fun m _ h2 => by
    have hm : m < xs.length := by omega
    rw [dif_pos hm]; exact e2 m hm h2) _ S
  intro s S
  rw [dif_pos hm]
  have hyi : (xs[m]).isInt = true := List.all_eq_true.mp hi _ (List.getElem_mem hm)
  cases hxm : xs[m] with
  | int k =>
    rw [hxm] at hy
    obtain ⟨u, rfl⟩ := ab_int hy
    exact (PySem.MeetsSeq.EqGives.int k i u t).at A.in1 s prog w _ _ ⟨H, S, rfl, rfl⟩
  | _ => rw [hxm] at hyi; cases hyi

theorem tx_domExtend (T : Stat fs w F) {a dx l : Addr} {xs ys : List AV} {Q : AV → Hp → Prop} (hx : H a = some (.dom 303 dx xs)) (hl : H l = some (.list ys)) (hz : xs.length + ys.length < big) (h : Q .none (upd H a (.dom 303 dx (xs ++ ys)))) :
    TX prog w A F (call (.builtin "list.extend") [.ref a, .ref l]) (fun v => Q (ab v)) H := by
  intro s S
  obtain ⟨C, od, items, m, sl, h1, rfl, h3, _, h5, up⟩ := (IsSeq.dom dx xs).get S hx
  obtain rfl := h5 (fun ys q => by cases q)
  obtain ⟨items2, m2, h2, rfl, h4⟩ := S.list hl
  rw [abl_length, abl_length] at hz
  unfold listO at h2
  refine dom_call' (T.inK S) (fun M => St.domType S hx M) PySem.F.slot_list_extend PySem.F.entry_list_extend (.inr kind_extend) split_extend (PySem.F.args_list_extend_2 _ _) ?_
  have hz' : (items ++ items2).size ≤ sizeLine + 1 := by rw [Array.size_append]; exact big_line1 (Nat.le_of_lt hz)
  have hd : ¬(!items.isEmpty && Builtin.List.listTooLong (items.size + items2.size)) = true := by
    have : Builtin.List.listTooLong (items.size + items2.size) = false := by
      unfold Builtin.List.listTooLong
      simp
      have := big_line; omega
    rw [this]; simp
  have up' := up (fun x => x ++ items2) s.toks (by rw [Array.size_append]; exact Nat.le_of_lt hz)
  obtain ⟨hp, g, d, tk, os⟩ := s
  wp_walk using (wpAny_updateSeq h1 rfl (hz := Nat.le_trans h3 big_line) (_hz' := hz')), PySem.AutoSeq1.wpAny_loadPart' h1, PySem.AutoSeq1.wpAny_loadPart' h2
  refine ⟨_, up', ?_⟩
  have : abl (items ++ items2) = abl items ++ abl items2 := by simp [abl]
  rw [this]; exact h
end
end Csp

namespace Csp
open PySem PySem.W PySem.Calls PyProof.Rows PySem.SeqAt

section
variable {prog : Program} {w : World} {fs : List Env} {A : Around} {F : FF} {H : Hp} {s : Shared} {n : Nat}

theorem stored_ab (kvs : List (Int × Value)) (k : Int) (v : Value) : (stored kvs k v).map (fun p => (p.1, ab p.2)) = store (kvs.map fun p => (p.1, ab p.2)) k (ab v) := by
  unfold stored store
  have e : (kvs.map fun p => (p.1, ab p.2)).any (fun p => decide (p.1 = k)) = kvs.any (fun kv => decide (kv.1 = k)) := by
    rw [List.any_map]; rfl
  rw [e]
  split
  · rw [List.map_map, List.map_map]
    refine List.map_congr_left fun p _ => ?_
    simp only [Function.comp]
    by_cases h : p.1 = k <;> simp [h]
  · simp
theorem stored_len (kvs : List (Int × Value)) (k : Int) (v : Value) : (stored kvs k v).length ≤ kvs.length + 1 := by
  unfold stored
  split <;> simp

theorem tx_setItem (T : Stat fs w F) {o i v : Value} {Q : Hp → Prop} (h : setItemP (ab o) (ab i) (ab v) Q H) : TX prog w A F (setItem o i v) (fun _ H' => Q H') H := by
  intro s S
  unfold setItemP at h
  split at h
  · rename_i a k e1 e2
    obtain rfl := ab_ref e1; obtain ⟨t, rfl⟩ := ab_int e2
    split at h
    · rename_i es ep hx
      obtain ⟨hz, h⟩ := h
      obtain ⟨kvs, h1, rfl, h2⟩ := S.dict hx
      rw [List.length_map] at hz
      refine wpAny_setItem_pairs (hsz := Nat.le_trans h2 big_line) (intKind_is prog w k t) h1.dictOf fun h' hd hs => ?_
      obtain ⟨o, ents, ep', b1, b2, b3, b4, b5, b6⟩ := hd
      exact ⟨_, S.set hx rfl hs.extBut b1 (y := .dict ((stored kvs k v).map fun (p : Int × Value) => (p.1, ab p.2)) ep') ⟨_, ents, b2, b3, b4, b5, b6, rfl, Nat.le_trans (stored_len kvs k v) hz⟩ rfl _, by rw [stored_ab]; exact h _⟩
    · exact h.elim
  · exact h.elim

theorem tx_delItem (T : Stat fs w F) {o i : Value} {Q : Hp → Prop} (h : delItemP (ab o) (ab i) Q H) : TX prog w A F (delItem o i) (fun _ H' => Q H') H := by
  intro s S
  unfold delItemP at h
  split at h
  · rename_i a k e1 e2
    obtain rfl := ab_ref e1; obtain ⟨t, rfl⟩ := ab_int e2
    split at h
    · rename_i es ep hx
      obtain ⟨hl, h⟩ := h
      obtain ⟨kvs, h1, rfl, h2⟩ := S.dict hx
      have hD := h1.dictOf
      have hv : (valueAt kvs k).isSome = true := by
        rw [look_eq] at hl
        cases e : valueAt kvs k <;> rw [e] at hl <;> simp_all
      unfold delItem
      refine wpAny_holding ?_
      refine wpAny_bind (wpAny_sequenceKey hD.typeIs (by decide) ?_)
      refine wpAny_bind (wpAny_callSpecial?_slot (name := Str.ofString "__delitem__") hD.typeIs PySem.F.slot_dict_delitem
        (call_meetsIn PySem.F.slot_dict_delitem hD.typeIs PySem.F.entry_dict_delitem (PySem.F.args_dict_delitem_2 _ _) (meets_dict_delitem_pairs (intKind prog w) a (intKind_is prog w k t)) ⟨kvs, hD, Nat.le_trans h2 big_line, hv, fun h' hd hs => ?_⟩))
      obtain ⟨o, ents, ep', b1, b2, b3, b4, b5, b6⟩ := hd
      refine wpAny_pure ⟨_, S.set hx rfl hs.extBut b1 (y := .dict ((without kvs k).map fun (p : Int × Value) => (p.1, ab p.2)) ep') ⟨_, ents, b2, b3, b4, b5, b6, rfl, Nat.le_trans (List.length_filter_le _ _) h2⟩ rfl _, ?_⟩
      have e : (without kvs k).map (fun (p : Int × Value) => (p.1, ab p.2)) = drop (kvs.map fun p => (p.1, ab p.2)) k := by
        unfold without drop
        rw [List.filter_map]; rfl
      rw [e]; exact h _
    · exact h.elim
  · exact h.elim

/-! slices that go -/
theorem zip_none {α : Type} (sel : Nat → Bool) : ∀ (l : List α) (i : Nat), (∀ k, i ≤ k → k < i + l.length → sel k = true) → (l.zipIdx i).filterMap (fun (x, k) => if sel k then none else some x) = []
  | [], _, _ => rfl
  | x :: r, i, h => by
    rw [List.zipIdx_cons, List.filterMap_cons]
    simp only [h i (Nat.le_refl _) (by simp), if_true]
    exact zip_none sel r (i + 1) fun k a b => h k (by omega) (by simp at b ⊢; omega)
theorem zip_take {α : Type} (sel : Nat → Bool) (c : Nat) : ∀ (l : List α) (i : Nat), (∀ k, i ≤ k → k < i + l.length → sel k = decide (c ≤ k)) → (l.zipIdx i).filterMap (fun (x, k) => if sel k then none else some x) = l.take (c - i)
  | [], _, _ => by simp
  | x :: r, i, h => by
    rw [List.zipIdx_cons, List.filterMap_cons]
    have ih := zip_take sel c r (i + 1) fun k a b => h k (by omega) (by simp at b ⊢; omega)
    have hi := h i (Nat.le_refl _) (by simp)
    by_cases hc : c ≤ i
    · simp only [hi, hc, decide_true, if_true]
      rw [ih, Nat.sub_eq_zero_of_le hc, Nat.sub_eq_zero_of_le (by omega)]; simp
    · simp only [hi, hc, decide_false, if_false, Bool.false_eq_true]
      rw [ih]
      obtain ⟨m, hm⟩ : ∃ m, c - i = m + 1 := ⟨c - i - 1, by omega⟩
      rw [hm, List.take_succ_cons, show c - (i + 1) = m by omega]

theorem delSlice_at {a : Addr} {xs : List AV} {vl vu vs : Value} {lo hi : Option Int} {c : Nat} {Q : Hp → Prop} (hx : H a = some (.list xs)) (pl : IsPart vl lo) (pu : IsPart vu hi) (ps : IsPart vs none)
    (hb : sliceBounds lo hi none xs.length = ((c : Int), (xs.length : Int), 1)) (h : Q (upd H a (.list (xs.take c)))) {sl : Addr} (S : St prog w F H s) (hs : s.heap.IsSliceOf sl vl vu vs) :
    wpAny (model prog w) A (delItem (.ref a) (.ref sl)) (fun _ s' => ∃ H', St prog w F H' s' ∧ Q H') (fun _ _ => False) s := by
  obtain ⟨C, od, items, m, slt, h1, rfl, h3, h4, _, up⟩ := (IsSeq.list xs).get S hx
  have h1' := isListObj h1 (h4 ⟨_, rfl⟩)
  rw [abl_length] at hb
  refine wpAny_delItem_slot ⟨_, h1', rfl⟩ (by decide) PySem.F.slot_list_delitem (wpAny_call_entry PySem.F.slot_list_delitem ⟨_, h1', rfl⟩ PySem.F.entry_list_delitem ?_ (PySem.F.args_list_delitem_2 _ _))
  obtain ⟨os, hos, hcs, hds⟩ := id hs
  have hTs : s.TypeIs (.ref sl) "slice" := ⟨os, hos, hcs⟩
  show wpAny _ _ (Builtin.List.listSubscript? (.ref sl) >>= _) _ _ _
  refine wpAny_bind ?_
  unfold Builtin.List.listSubscript?
  refine wpAny_bind (wpAny_specialOf hTs slice_no_index ?_)
  refine wpAny_pure ?_
  show wpAny _ _ (typeOf (.ref sl) >>= _) _ _ _
  refine wpAny_bind (wpAny_typeOf hTs ?_)
  rw [if_neg (by decide), listSliceParts_eq]
  refine wpAny_bind (wpAny_bind (wpAny_field hos hds (x := vs) rfl (wpAny_bind (wpAny_listPart ps ?_))))
  rw [if_neg (by decide)]
  refine wpAny_bind (wpAny_field hos hds (x := vl) rfl (wpAny_bind (wpAny_listPart pl ?_)))
  refine wpAny_bind (wpAny_field hos hds (x := vu) rfl (wpAny_bind (wpAny_listPart pu (wpAny_pure ?_))))
  refine wpAny_bind (m := Builtin.List.listItems (.ref a)) ?_
  unfold Builtin.List.listItems
  refine wpAny_bind (wpAny_seqItems h1' rfl (wpAny_pure ?_))
  refine wpAny_bind (wpAny_of_eq (sliceIndices_raw lo hi none items.size (by simp)) ?_)
  rw [hb]
  refine wpAny_bind (wpAny_rule ?_)
  have key : ∀ ys : List Value, ys.length = items.size → ∀ sel : Nat → Bool, (∀ k, sel k = (decide ((c : Int) ≤ (k : Int)) && decide ((k : Int) < (items.size : Int)) && ((k : Int) - (c : Int)) % 1 == 0)) →
      (ys.zipIdx.filterMap (fun (x, k) => if sel k then none else some x)) = ys.take c := by
    intro ys hys sel hsel
    refine zip_take sel c ys 0 fun k _ hk => ?_
    rw [hsel]
    have : (k : Int) < (items.size : Int) := by omega
    simp [this, Int.emod_one]
  have fz : ∀ f : Array Value → Array Value, (∀ ys : Array Value, ys.size = items.size → f ys = (ys.toList.take c).toArray) →
      wpAny (model prog w) A.in1 (Builtin.List.listUpdate (.ref a) f) (fun _ s' => s' = { s with heap := s.heap.update a (Obj.mapSeq f) } ∧ (f items) = (items.toList.take c).toArray) (fun _ _ => False) s := by
    intro f hf
    have hsz : (f items).size ≤ items.size := by rw [hf items rfl]; simp; omega
    exact wpAny_updateSeq h1' rfl ⟨rfl, hf items rfl⟩ (hz := Nat.le_trans h3 big_line) (_hz' := big_line1 (Nat.le_trans hsz h3))
  refine wpAny_bind (wpAny_mono (fz _ (fun ys hys => ?_)) (fun _ s' z => ?_) fun _ _ e => e.elim)
  · exact congrArg List.toArray (key ys.toList (by simpa using hys) _ (fun k => rfl))
  · obtain ⟨rfl, z⟩ := z
    refine wpAny_bind (wpAny_letGo (wpAny_pure ⟨_, rfl, ?_⟩))
    refine ⟨_, up _ _ ?_, ?_⟩
    · rw [z]; simp; omega
    · rw [z]
      have : abl (items.toList.take c).toArray = (abl items).take c := by simp [abl, List.map_take]
      rw [this]; exact h
end
end Csp

namespace Csp
open PySem PySem.W PySem.Calls PyProof.Rows PySem.SeqAt Builtin Builtin.ObjectAttr

section
variable {prog : Program} {w : World} {fs : List Env} {A : Around} {F : FF} {H : Hp} {s : Shared} {n : Nat}

theorem NsOk.putNew {ents : List DictEntry} {es : List (String × AV)} (h : NsOk ents es) {nm : String} (hn : es.lookup nm = none) (hsh : Int) (tk : Tok) (v : Value) :
    NsOk (putL (Str.ofString nm) hsh (.str (Str.ofString nm) tk) v ents) (es ++ [(nm, ab v)]) ∧ (putL (Str.ofString nm) hsh (.str (Str.ofString nm) tk) v ents).length = ents.length + 1 := by
  induction h with
  | nil => exact ⟨.cons rfl rfl .nil, rfl⟩
  | @cons e r n u l t h1 h2 h3 ih =>
    rw [List.lookup_cons] at hn
    have hne : n ≠ nm := by
      rintro rfl
      rw [beq_self_eq_true] at hn; cases hn
    have hb : (nm == n) = false := beq_eq_false_iff_ne.mpr (fun q => hne q.symm)
    rw [hb] at hn
    obtain ⟨i1, i2⟩ := ih hn
    have : e.key.isStr (Str.ofString nm) = false := by
      rw [h1]; simp only [Value.isStr, beq_eq_false_iff_ne]
      exact fun q => hne (ofString_inj q)
    unfold putL
    rw [this, if_neg (by decide)]
    exact ⟨.cons h1 h2 i1, by simp [i2]⟩
theorem NsOk.len {ents : List DictEntry} {es : List (String × AV)} (h : NsOk ents es) : ents.length = es.length := by
  induction h with
  | nil => rfl
  | cons _ _ _ ih => simp [ih]
theorem NsOk.noRef {ents : List DictEntry} {es : List (String × AV)} (h : NsOk ents es) : ents.any (·.refKey) = false := by
  induction h with
  | nil => rfl
  | @cons e r n v l t h1 h2 h3 ih =>
    have hr : e.refKey = false := by unfold DictEntry.refKey; rw [h1]
    rw [List.any_cons, hr, ih]; rfl

/-- what the class must be for a store -/
theorem k_set (w : World) : (instC.all fun C => ownNames.all fun nm => (findIn (KK w) (.ref C) "__setattr__" == some (some (.builtin "object.__setattr__"))) && plainOver (KK w) C && (takerIn (KK w) C (Str.ofString nm) == some none) && (clsIn (KK w) C).any (·.hasDict)) = true := by
  kernel_rfl
theorem k_setD (w : World) : (ownNames.all fun nm => (findIn (KK w) (.ref 303) "__setattr__" == some (some (.builtin "object.__setattr__"))) && (takerIn (KK w) 303 (Str.ofString nm) == some none) && (clsIn (KK w) 303).any (fun cd => cd.hasDict && cd.mro == [.ref 303, .type "list", .type "object"])) = true := by
  kernel_rfl

/-- the tail of a store: the dict gets the name -/
theorem store_tail (S : St prog w F H s) {x dx C : Addr} {ox : Obj} {ents : List DictEntry} {m : Nat} {es : List (String × AV)} {nm : String} {tk : Tok} {v : Value} {b : Bool} (hx : H dx = some (.ns es)) (X : (KK w).In s.heap)
    (I : InstAt s.heap x ox C (some (dictOf ents m))) (hd : ox.dict = some dx) (hh : (clsIn (KK w) C).any (·.hasDict) = true) (N : NsOk ents es) (hz : es.length < 20) (hn : es.lookup nm = none) :
    wpAny (model prog w) A (storeInOwnDict (.ref x) (.ref C) (.str (Str.ofString nm) tk) (Str.ofString nm) v b) (fun fin s' => fin = .done (.ret .none) ∧ St prog w F (upd H dx (.ns (es ++ [(nm, ab v)]))) s') (fun _ _ => False) s := by
  obtain ⟨cd, hc, hd'⟩ := any_some hh
  have hdd := I.dict
  rw [hd] at hdd
  obtain ⟨hxo, hcl, -, -⟩ := I
  obtain ⟨oc, odi, oda, osl⟩ := ox
  dsimp only at hcl hd
  subst hcl hd
  have D : s.heap.get? dx = some (dictOf ents m) := hdd
  refine wpAny_bind (wpAny_pure (wpAny_bind (wpAny_bind (wpAny_loadPart hxo (wpAny_bind ((looks_clsIn X hc).here ?_))))))
  rw [hd']
  refine wpAny_pure (a := some dx) (wpAny_bind (wpAny_pure (wpAny_bind ?_)))
  unfold nsSet
  refine wpAny_bind (wpAny_bind (wpAny_askSetting (wpAny_pure (wpAny_bind (wpAny_mkText (wpAny_bind (wpAny_loadPart D ?_)))))))
  have c : (!ents.toArray.any (·.key.isStr (Str.ofString nm)) && ents.toArray.any (·.refKey)) = false := by
    rw [← Array.any_toList (p := fun x : DictEntry => x.refKey)]
    show (_ && ents.any _) = false
    rw [N.noRef, Bool.and_false]
  show wpAny _ _ (if aRefKeyMayBeTheName (Str.ofString nm) ents.toArray = true then _ else _) _ _ _
  rw [aRefKeyMayBeTheName_at, c]
  refine wpAny_updatePart D ?_
  obtain ⟨p1, p2⟩ := N.putNew hn (PyData.keyHash w.params (Str.ofString nm)) s.toks v
  have D' := Heap.get?_update_self (h := s.heap) (Obj.putName (Str.ofString nm) (PyData.keyHash w.params (Str.ofString nm)) (.str (Str.ofString nm) s.toks) v) D (by rw [putName_dict]; rfl)
  rw [putName_dict] at D'
  have hlen : (putL (Str.ofString nm) (PyData.keyHash w.params (Str.ofString nm)) (.str (Str.ofString nm) s.toks) v ents).length ≤ 100 := by rw [p2, N.len]; omega
  refine wpAny_bind (wpAny_lookBehind D' (pastItsLine_dict (by rw [List.size_toArray, sizeLine_eq]; omega)) ?_)
  refine wpAny_pure ⟨rfl, ?_⟩
  exact S.set hx rfl (Heap.SameBut.update ..).extBut D' (y := .ns (es ++ [(nm, ab v)])) ⟨_, _, rfl, p1, hlen⟩ rfl _

theorem refuse_list (self : Value) : refuseLoop self "__setattr__" [.type "list", .type "object"] = pure () := by kernel_rfl
theorem osa_openD {x : Addr} {ox : Obj} {od : Option Obj} {name : Str} {tk : Tok} {v : Value} {cd : ClassData} {R : Result → Shared → Prop} (X : (KK w).In s.heap) (I : InstAt s.heap x ox 303 od) (hc : clsIn (KK w) 303 = some cd) (hm : cd.mro = [.ref 303, .type "list", .type "object"])
    (ht : takerIn (KK w) 303 name = some none)
    (h : ∀ b, wpAny (model prog w) A.in1 (storeInOwnDict (.ref x) (.ref 303) (.str name tk) name v b)
      (fun fin s' => match fin with | .done f => R (.ok f) s' | .again c' => c'.quiet = true ∧ codeAny (model prog w) A c' R s') (fun e s' => R (.error e) s') s) :
    codeAny (model prog w) A (.call (.builtin "object.__setattr__") ⟨[.ref x, .str name tk, v], []⟩) R s := by
  have SF := PySem.F.store_object
  have sub : Looks (model prog w) s.heap (isInstance (.ref x) (.type "object")) true := I.type.andThen (looks_mroIn X (by unfold mroIn; rw [hc, Option.bind_some, hm]; rfl))
  refine codeAny_call_builtin SF.slot.plain SF.entry (@check_slot (model prog w) _ _ s "object.__setattr__" "object" "__setattr__" (.ref x) [.str name tk, v] [] _ SF.kind SF.split sub (SF.args (.ref x) (.str name tk) v) ?_)
  obtain ⟨attr, ha, hr⟩ := Option.bind_eq_some_iff.mp ht
  have hmr : Looks (model prog w) s.heap (mroOf (.ref 303)) cd.mro := (looks_clsIn X hc).andThen .now
  have L3 : Looks (model prog w) s.heap (storeTaker? attr) none := by
    cases attr with
    | none => exact .now
    | some a =>
      obtain ⟨b, hb, e⟩ := Option.map_eq_some_iff.mp hr
      refine (looks_takesIn X hb).andThen ?_
      cases b
      · exact .now
      · cases e
  rw [osa_eq, refuse_eq]
  refine wpAny_bind (wpAny_bind (I.type.here (wpAny_bind (hmr.here ?_))))
  rw [hm, refuseLoop_ref]
  rw [refuse_list]
  refine wpAny_pure (wpAny_bind (I.type.here (wpAny_bind ((looks_findIn X ha).here (wpAny_bind (L3.here ?_))))))
  exact h _

/-- an attribute's store -/
theorem tx_setAttr (T : Stat fs w F) {o v : Value} {nm : String} {Q : Hp → Prop} (hnm : nm ∈ ownNames) (h : setAttrP (ab o) nm (ab v) Q H) : TX prog w A F (setAttr o (Str.ofString nm) v) (fun _ H' => Q H') H := by
  intro s S
  have X := T.inK S
  obtain ⟨hp, h⟩ := h
  split at h
  · rename_i a e
    obtain rfl := ab_ref e
    split at h
    · rename_i C dx hx
      obtain ⟨hC, h⟩ := h
      split at h
      · rename_i es hd
        obtain ⟨hz, hn, h⟩ := h
        obtain ⟨sl, ents, m, I, N, _⟩ := S.instAt hx hd
        have k := List.all_eq_true.mp (List.all_eq_true.mp (k_set w) C hC) nm hnm
        simp only [Bool.and_eq_true, beq_iff_eq] at k
        obtain ⟨⟨⟨k1, k2⟩, k3⟩, k4⟩ := k
        refine set_plain X I k1 (osa_open (s := { s with toks := s.toks + 1 }) X I k2 k3 fun b => ?_)
        exact wpAny_mono (store_tail (S.toks (s.toks + 1)) hd X I rfl k4 N hz hn) (fun fin s' z => by obtain ⟨rfl, S'⟩ := z; exact ⟨_, S', h⟩) fun _ _ e => e.elim
      · exact h.elim
    · rename_i C dx xs hx
      obtain ⟨rfl, h⟩ := h
      split at h
      · rename_i es hd
        obtain ⟨hz, hn, h⟩ := h
        obtain ⟨o1, h1, items, m1, sl, rfl, _, _⟩ := S.get hx
        obtain ⟨o2, h2, ents, m, rfl, N, _⟩ := S.get hd
        have I : InstAt s.heap a ⟨.ref 303, some dx, .seq items m1, sl⟩ 303 (some (dictOf ents m)) := ⟨h1, rfl, rfl, h2⟩
        have k := List.all_eq_true.mp (k_setD w) nm hnm
        simp only [Bool.and_eq_true, beq_iff_eq] at k
        obtain ⟨⟨k1, k3⟩, k4⟩ := k
        obtain ⟨cd, hc, k5⟩ := any_some k4
        simp only [Bool.and_eq_true, beq_iff_eq] at k5
        refine set_plain X I k1 (osa_openD (s := { s with toks := s.toks + 1 }) X I hc k5.2 k3 fun b => ?_)
        exact wpAny_mono (store_tail (S.toks (s.toks + 1)) hd X I rfl (by rw [hc]; exact k5.1) N hz hn) (fun fin s' z => by obtain ⟨rfl, S'⟩ := z; exact ⟨_, S', h⟩) fun _ _ e => e.elim
      · exact h.elim
    · exact h.elim
  · exact h.elim
end
end Csp

namespace Csp
open PySem PySem.W PySem.Calls PyProof.Rows PySem.SeqAt

section
variable (prog : Program) (w : World)
/-- what a call gives -/
def Back (F : FF) (Q : AV → Hp → Prop) (r : Result) (s' : Shared) : Prop := ∃ v H', r = .ok (.ret v) ∧ St prog w F H' s' ∧ Q (ab v) H'
/-- a call at any place that has room for n levels -/
def CX (n : Nat) (f : AV) (args : List AV) (Q : AV → Hp → Prop) (H : Hp) : Prop :=
  ∀ (fs : List Env) (A : Around) (F : FF) (fv : Value) (vs : List Value) (s : Shared), Room fs A n → Stat fs w F → ab fv = f → vs.map ab = args → St prog w F H s →
    codeAny (model prog w) A (.call fv ⟨vs, []⟩) (Back prog w F Q) s
end

section
variable {prog : Program} {w : World} {fs : List Env} {A : Around} {F : FF} {H : Hp} {s : Shared} {n : Nat}

theorem Room.down {m : Nat} (R : Room fs A m) (h : n ≤ m) : Room fs A n := ⟨by have := R.depth; omega, by have := R.units; omega, R.handled, R.frames⟩
theorem CX.up {f : AV} {args : List AV} {Q : AV → Hp → Prop} {m : Nat} (h : CX prog w n f args Q H) (hm : n ≤ m) : CX prog w m f args Q H :=
  fun fs A F fv vs s R T e1 e2 S => h fs A F fv vs s (R.down hm) T e1 e2 S
theorem Back.mono {Q Q' : AV → Hp → Prop} {r : Result} {s' : Shared} (h : Back prog w F Q r s') (hq : ∀ v H', Q v H' → Q' v H') : Back prog w F Q' r s' := by
  obtain ⟨v, H', e, S, q⟩ := h; exact ⟨v, H', e, S, hq _ _ q⟩
theorem CX.mono {f : AV} {args : List AV} {Q Q' : AV → Hp → Prop} (h : CX prog w n f args Q H) (hq : ∀ v H', Q v H' → Q' v H') : CX prog w n f args Q' H :=
  fun fs A F fv vs s R T e1 e2 S => codeAny_mono (h fs A F fv vs s R T e1 e2 S) fun r s' z => z.mono hq
theorem CX.tx {f : AV} {args : List AV} {Q : AV → Hp → Prop} (h : CX prog w n f args Q H) (R : Room fs A n) (T : Stat fs w F) {fv : Value} {vs : List Value} (e1 : ab fv = f) (e2 : vs.map ab = args) :
    TX prog w A F (call fv vs) (fun v => Q (ab v)) H := fun s S =>
  wpAny_call (codeAny_mono (h fs A F fv vs s R T e1 e2 S) fun r s' z => by obtain ⟨v, H', rfl, S', q⟩ := z; exact ⟨H', S', q⟩)

/-! classes of the text -/
def mkC : List (Addr × Addr) := [(110, 36), (186, 164), (225, 203), (410, 392), (438, 427), (466, 455)]
theorem k_make (w : World) : (mkC.all fun p => makesIn (KK w) p.1 && (findIn (KK w) (.ref p.1) "__init__" == some (some (.ref p.2))) && (typeIn (KK w) (.ref p.2) == some (.type "function"))) = true := by kernel_rfl

theorem cx_make {C fI : Addr} (hC : (C, fI) ∈ mkC) {vs : List AV} {Q : AV → Hp → Prop}
    (h : ∀ dx x, Fresh H dx → Fresh H x → dx ≠ x → CX prog w n (.ref fI) (.ref x :: vs) (fun v H' => v = .none ∧ Q (.ref x) H') (upd (upd H dx (.ns [])) x (.inst C dx))) : CX prog w (n + 1) (.ref C) vs Q H := by
  intro fs A F fv vv s R T e1 e2 S
  obtain rfl := ab_ref e1
  have k := List.all_eq_true.mp (k_make w) _ hC
  simp only [Bool.and_eq_true, beq_iff_eq] at k
  obtain ⟨⟨k1, k2⟩, k3⟩ := k
  have X := T.inK S
  have S1 := S.alloc (o := emptyDict) (x := .ns []) ⟨[], 0, rfl, .nil, by simp⟩ rfl rfl
  have S2 := S1.alloc (o := instObj C s.heap.objs.size) (x := .inst C s.heap.objs.size) ⟨_, rfl⟩ rfl rfl
  have hsz : (s.heap.push emptyDict).objs.size = s.heap.objs.size + 1 := Heap.size_push ..
  have hne : s.heap.objs.size ≠ s.heap.objs.size + 1 := Nat.ne_of_lt (Nat.lt_succ_self _)
  have f1 := S1.fresh0
  simp only [hsz] at S2 f1
  rw [upd_ne (Ne.symm hne)] at f1
  obtain ⟨hh, g, d, t, os⟩ := s
  refine make_core (makes_of X k1) (looks_findIn X k2) (fun self => bind_fn X self k3) (.inl rfl) ?_
  refine codeAny_mono (h hh.objs.size (hh.objs.size + 1) S.freshH ⟨f1, Nat.ne_of_gt (Nat.lt_succ_of_lt S.size)⟩ hne fs _ F (.ref fI) (.ref (hh.objs.size + 1) :: vv) _ ?_ T rfl (by rw [List.map_cons, e2]; rfl) S2) fun r s' z => ?_
  · exact ⟨by show A.depth + 1 + 10 * n < 900; have := R.depth; omega, by show A.units + 1 + 100 * n < 9000; have := R.units; omega, R.handled, R.frames⟩
  · obtain ⟨v, H', rfl, S', hv, q⟩ := z
    obtain rfl := ab_none hv
    exact ⟨rfl, _, H', rfl, S', q⟩
end
end Csp

namespace Csp
open PySem PySem.W PySem.Calls PyProof.Rows PySem.SeqAt Builtin Builtin.ObjectAttr

def makesInL (K : Frag) (C : Addr) : Bool := match K.lookup C with
  | some ⟨_, _, .cls cd, sl⟩ => !cd.abstract && !cd.hasDel && (sl.toList[4]?).join == some (.builtin "list.__new__") && !cd.mro.isEmpty && cd.mro.contains (.ref C) && cd.mro.contains (.type "list") &&
      specialIn K (.ref C) "__call__" == some (some (.builtin "type.__call__")) && instIn K (.ref C) (.type "type") == some true
  | _ => false
theorem k_makeL (w : World) : makesInL (KK w) 303 = true ∧ findIn (KK w) (.ref 303) "__init__" = some (some (.ref 272)) ∧ typeIn (KK w) (.ref 272) = some (.type "function") := by
  refine ⟨?_, ?_, ?_⟩ <;> kernel_rfl

structure MakesL (M : Model) (h : Heap) (C : Addr) : Prop where
  obj : ∃ oc od cd sl, h.get? C = some ⟨oc, od, .cls cd, sl⟩ ∧ cd.abstract = false ∧ cd.hasDel = false ∧ cd.mro.isEmpty = false
  made : Looks M h (Bind.madeBy (.ref C)) (some "list.__new__")
  base : Looks M h (Bind.staticBase (.ref C)) (.ref C)
  self : Looks M h (isSubtype (.ref C) (.ref C)) true
  top : Looks M h (isSubtype (.ref C) (.type "list")) true
  call : Looks M h (specialOf (.ref C) "__call__") (some (.builtin "type.__call__"))
  typ : Looks M h (isInstance (.ref C) (.type "type")) true
theorem makes_ofL {K : Frag} {M : Model} {h : Heap} (X : K.In h) {C : Addr} (e : makesInL K C = true) : MakesL M h C := by
  unfold makesInL at e
  split at e
  · rename_i oc od cd sl ho
    simp only [Bool.and_eq_true, Bool.not_eq_true', beq_iff_eq] at e
    obtain ⟨⟨⟨⟨⟨⟨⟨e1, e2⟩, e3⟩, e4⟩, e5⟩, e6⟩, e7⟩, e8⟩ := e
    have hc : clsIn K C = some cd := by unfold clsIn; rw [ho]
    have hm : Looks M h (mroOf (.ref C)) cd.mro := (looks_clsIn X hc).andThen .now
    obtain ⟨c, l, hl⟩ : ∃ c l, cd.mro = c :: l := by cases q : cd.mro with | nil => rw [q] at e4; cases e4 | cons c l => exact ⟨c, l, rfl⟩
    have made : Looks M h (Bind.madeBy (.ref C)) (some "list.__new__") := by
      intro A Q E s k q
      unfold Bind.madeBy
      refine wpAny_bind (hm A _ E s k ?_)
      rw [hl, List.forIn_cons]
      refine wpAny_bind (wpAny_bind (wpAny_bind (wpAny_bind (wpAny_loadPart (k _ _ (X _ _ ho)) (wpAny_pure ?_)))))
      dsimp only
      rw [← Array.getElem?_toList, e3]
      exact wpAny_pure (wpAny_pure (wpAny_pure q))
    refine ⟨⟨oc, od, cd, sl, X _ _ ho, e1, e2, e4⟩, made, ?_, looks_mroIn X ?_, looks_mroIn X ?_, looks_specialIn X e7, looks_instIn X e8⟩
    · intro A Q E s k q
      unfold Bind.staticBase
      refine wpAny_bind (hm A _ E s k ?_)
      rw [hl, List.forIn_cons]
      exact wpAny_bind (wpAny_bind (wpAny_bind (made A _ E s k (wpAny_pure (wpAny_pure (wpAny_pure q))))))
    · unfold mroIn; rw [hc, Option.bind_some, if_neg (by rw [e4]; decide), e5]
    · unfold mroIn; rw [hc, Option.bind_some, if_neg (by rw [e4]; decide), e6]
  · cases e

abbrev domObj (C dx : Addr) : Obj := { cls := .ref C, dict := some dx, data := .seq #[] }
theorem kind_lnew : builtinKind "list.__new__" = some .builtinFn := by decide +kernel
theorem split_lnew : splitId "list.__new__" = some ("list", "__new__") := by decide +kernel
theorem sig_lnew (a b : Value) : argsOk "list.__new__" ⟨[a, b], []⟩ := by unfold argsOk; kernel_rfl

section
variable {prog : Program} {w : World} {fs : List Env} {A : Around} {C : Addr} {R : Result → Shared → Prop} {h : Heap} {g : Array GenState} {d : Drawn} {t : Nat} {os : OsState}
theorem new_L {v : Value} (Y : MakesL (model prog w) h C) 
    (hq : R (.ok (.ret (.ref (h.objs.size + 1)))) ⟨(h.push emptyDict).push (domObj C h.objs.size), g, d, t, os⟩) :
    codeAny (model prog w) A (.call (.builtin "list.__new__") ⟨[.ref C, v], []⟩) R ⟨h, g, d, t, os⟩ := by
  obtain ⟨⟨oc, od, cd, sl, hC, e1, e2, e4⟩, made, base, self, top, call, typ⟩ := Y
  refine codeAny_of_tree ?_
  show wpAny _ A.in1 (do checkBuiltinCall "list.__new__" ⟨[.ref C, v], []⟩; again (.builtin "list.__new__" ⟨[.ref C, v], []⟩)) _ _ _
  have chk : ∀ {Q : Unit → Shared → Prop} {E : Value → Shared → Prop}, Q () ⟨h, g, d, t, os⟩ → wpAny (model prog w) A.in1 (checkBuiltinCall "list.__new__" ⟨[.ref C, v], []⟩) Q E ⟨h, g, d, t, os⟩ := by
    intro Q E q
    simp only [checkBuiltinCall, kind_lnew, split_lnew]
    have ha := sig_lnew (.ref C) v
    repeat (first | simp only [bne_self_eq_false, Bool.false_eq_true, if_false, Bool.not_true] | lk)
    exact q
  refine wpAny_bind (chk (wpAny_pure ⟨plainId_quiet F.plain_list_new _, codeAny_builtin_stack F.entry_list_new rfl fun p st => ?_⟩))
  rw [Around.under_plainId F.plain_list_new _]
  have hown := owner_list_new
  simp only [hown]
  repeat (first | simp only [e1, bne_self_eq_false, Bool.false_eq_true, if_false, Bool.not_true] | lk)
  refine wpAny_load (Heap.get?_push_of_some _ (Heap.get?_push_of_some _ hC)) (wpAny_pure ?_)
  rw [e2]
  refine wpAny_pure (wpAny_pure ?_)
  show R _ _
  rw [Heap.size_push]
  exact hq

theorem make_coreL {v init : Value} (Y : MakesL (model prog w) h C) (hi : Looks (model prog w) h (typeLookup (.ref C) "__init__") (some init))
    (hb : ∀ self, Looks (model prog w) h (bindSpecial init self) (init, [self])) 
    (hq : codeAny (model prog w) (A.under (.builtin "type.__call__" ⟨[.ref C, v], []⟩)) (.call init ⟨[.ref (h.objs.size + 1), v], []⟩) (InitBack (h.objs.size + 1) R) ⟨(h.push emptyDict).push (domObj C h.objs.size), g, d, t, os⟩) :
    codeAny (model prog w) A (.call (.ref C) ⟨[v], []⟩) R ⟨h, g, d, t, os⟩ := by
  have Y' := Y
  obtain ⟨⟨oc, od, cd, sl, hC, e1, e2, e4⟩, made, base, self, top, call, typ⟩ := Y
  refine codeAny_of_tree ?_
  show wpAny _ _ (callAny (.ref C) _) _ _ _
  refine nd_load hC ?_
  show wpAny _ _ (callAny.viaDunder (.ref C) _) _ _ _
  unfold callAny.viaDunder
  refine wpAny_bind (call.at ?_)
  dsimp only
  rw [tc_bind]
  refine wpAny_bind (wpAny_pure (wpAny_bind (wpAny_pure ?_)))
  refine wpAny_pure (a := Fin.again (.call (.builtin "type.__call__") ⟨[.ref C, v], []⟩)) (And.intro rfl ?_)
  refine codeAny_call_builtin_at (Code.quiet_builtin _ (by decide +kernel)) entry_typeCall (check_slot tc_kind tc_split typ (tc_args _ _ _) ?_)
  unfold Builtin.«type.__call__»
  have hm : Looks (model prog w) h (mroOf (.ref C)) cd.mro := ((Looks.ld (part := none) hC).andThen .now).andThen .now
  repeat (first | simp only [e4, Bool.false_eq_true, if_false] | with_reducible refine wpAny_call ?_ | lk)
  refine new_L Y' ?_
  have k : ∀ b o, h.get? b = some o → ((h.push emptyDict).push (domObj C h.objs.size)).get? b = some o := fun b o e => Heap.get?_push_of_some _ (Heap.get?_push_of_some _ e)
  have hx : ((h.push emptyDict).push (domObj C h.objs.size)).get? (h.objs.size + 1) = some (domObj C h.objs.size) := by heap_get
  have t1 : Looks (model prog w) ((h.push emptyDict).push (domObj C h.objs.size)) (typeOf (.ref (h.objs.size + 1))) (.ref C) := (Looks.ld hx).andThen .now
  have s1 := self.keeps k
  have i1 := hi.keeps k
  have b1 := (hb (.ref (h.objs.size + 1))).keeps k
  unfold isInstance callSpecial? specialOf
  repeat (first | with_reducible refine wpAny_call ?_ | lk)
  refine codeAny_mono hq fun r s' z => ?_
  rcases r with e | (v | _ | _ | _) <;> first | exact z | exact z.elim | skip
  obtain ⟨rfl, z⟩ := z
  exact wpAny_pure (wpAny_pure z)
end

section
variable {prog : Program} {w : World} {fs : List Env} {A : Around} {F : FF} {H : Hp} {s : Shared} {n : Nat}
theorem cx_makeD {v : AV} {Q : AV → Hp → Prop}
    (h : ∀ dx x, Fresh H dx → Fresh H x → dx ≠ x → CX prog w n (.ref 272) [.ref x, v] (fun v H' => v = .none ∧ Q (.ref x) H') (upd (upd H dx (.ns [])) x (.dom 303 dx []))) : CX prog w (n + 1) (.ref 303) [v] Q H := by
  intro fs A F fv vv s R T e1 e2 S
  obtain rfl := ab_ref e1
  obtain ⟨u, vv', rfl⟩ : ∃ u r, vv = u :: r := by cases vv with | nil => cases e2 | cons u r => exact ⟨u, r, rfl⟩
  obtain rfl : vv' = [] := by cases vv' with | nil => rfl | cons _ _ => cases e2
  obtain ⟨k1, k2, k3⟩ := k_makeL w
  have X := T.inK S
  have S1 := S.alloc (o := emptyDict) (x := .ns []) ⟨[], 0, rfl, .nil, by simp⟩ rfl rfl
  have S2 := S1.alloc (o := domObj 303 s.heap.objs.size) (x := .dom 303 s.heap.objs.size []) ⟨_, 0, _, rfl, rfl, Nat.zero_le _⟩ rfl rfl
  have hsz : (s.heap.push emptyDict).objs.size = s.heap.objs.size + 1 := Heap.size_push ..
  have hne : s.heap.objs.size ≠ s.heap.objs.size + 1 := Nat.ne_of_lt (Nat.lt_succ_self _)
  have f1 := S1.fresh0
  simp only [hsz] at S2 f1
  rw [upd_ne (Ne.symm hne)] at f1
  obtain ⟨hh, g, d, t, os⟩ := s
  refine make_coreL (makes_ofL X k1) (looks_findIn X k2) (fun self => bind_fn X self k3) ?_
  refine codeAny_mono (h hh.objs.size (hh.objs.size + 1) S.freshH ⟨f1, Nat.ne_of_gt (Nat.lt_succ_of_lt S.size)⟩ hne fs _ F (.ref 272) [.ref (hh.objs.size + 1), u] _ ?_ T rfl (by rw [← e2]; rfl) S2) fun r s' z => ?_
  · exact ⟨by show A.depth + 1 + 10 * n < 900; have := R.depth; omega, by show A.units + 1 + 100 * n < 9000; have := R.units; omega, R.handled, R.frames⟩
  · obtain ⟨v, H', rfl, S', hv, q⟩ := z
    obtain rfl := ab_none hv
    exact ⟨rfl, _, H', rfl, S', q⟩
end
end Csp

namespace Csp
open PySem PySem.W PySem.Calls PyProof.Rows PySem.SeqAt Builtin Builtin.ObjectAttr
section
variable {prog : Program} {w : World} {fs : List Env} {A : Around} {F : FF} {H : Hp} {s : Shared} {n : Nat}

def callL : List (Addr × Addr) := [(410, 407), (438, 435), (466, 463)]
theorem k_call (w : World) : (callL.all fun p => (findIn (KK w) (.ref p.1) "__call__" == some (some (.ref p.2))) && (typeIn (KK w) (.ref p.2) == some (.type "function")) && fnIn (KK w) p.2) = true := by kernel_rfl
theorem k_callC (w : World) : (callC.all fun a => keepIn (KK w) (.ref a)) = true := by kernel_rfl

theorem kept_inst {c C dx : Addr} (h : H c = some (.inst C dx)) : Kept prog w F (.ref c) H := fun s S => by
  obtain ⟨sl, h1⟩ := S.instGet h
  exact ⟨.caller, (Looks.ld (part := none) h1).andThen .now⟩

theorem kept_of (T : Stat fs w F) {v : Value} (h : callOk H (ab v)) : Kept prog w F v H := by
  unfold callOk at h
  split at h
  · rename_i a e
    obtain rfl := ab_ref e
    rcases h with h | h
    · exact kept_K T (List.all_eq_true.mp (k_callC w) a h)
    · split at h
      · rename_i C dx hx
        exact kept_inst hx
      · exact h.elim
  · exact h.elim

theorem cx_inst {c C dx f : Addr} {vs : List AV} {Q : AV → Hp → Prop} (hf : (C, f) ∈ callL) (hx : H c = some (.inst C dx)) (h : CX prog w n (.ref f) (.ref c :: vs) Q H) : CX prog w n (.ref c) vs Q H := by
  intro fs A F fv vv s R T e1 e2 S
  obtain rfl := ab_ref e1
  have k := List.all_eq_true.mp (k_call w) _ hf
  simp only [Bool.and_eq_true, beq_iff_eq] at k
  obtain ⟨⟨k1, k2⟩, k3⟩ := k
  have X := T.inK S
  obtain ⟨sl, h1⟩ := S.instGet hx
  refine codeAny_of_tree ?_
  show wpAny _ _ (callAny (.ref c) _) _ _ _
  unfold callAny
  refine wpAny_bind (wpAny_load h1 ?_)
  show wpAny _ _ (callAny.viaDunder (.ref c) _) _ _ _
  unfold callAny.viaDunder
  refine wpAny_bind (wpAny_bind ((St.instType S hx _).here ((looks_findIn X k1).here ?_)))
  dsimp only
  refine wpAny_bind (m := bindSpecial (.ref f) (.ref c)) ((bind_fn X (.ref c) k2).here ?_)
  unfold fnIn at k3
  split at k3
  · rename_i e
    refine wpAny_bind (m := callAny.plainCallee (.ref f)) ?_
    unfold callAny.plainCallee
    refine wpAny_bind (wpAny_load (X _ _ e) (wpAny_pure ?_))
    exact wpAny_pure (And.intro rfl (h fs A F (.ref f) (.ref c :: vv) s R T rfl (by rw [List.map_cons, e2]; rfl) S))
  · cases k3

theorem isLT_at {x : Value} {tp : Addr} {Q : AV → Hp → Prop} (h : isLTP (ab x) Q H) (S : St prog w F H s) (ht : s.heap.get? tp = some { cls := .type "tuple", data := .seq [Value.type "list", Value.type "tuple"].toArray }) :
    wpAny (model prog w) A (call (.builtin "isinstance") [x, .ref tp]) (fun v s' => ∃ H', St prog w F H' s' ∧ Q (ab v) H') (fun _ _ => False) s := by
  unfold isLTP at h
  split at h
  · rename_i a e
    obtain rfl := ab_ref e
    split at h
    · rename_i xs hx
      obtain ⟨items, m, h1, rfl, h2⟩ := S.list hx
      refine IsiPair.tupleOfB (AnswersAll.cons (Answers.of_true (Tx := "list") ty_list AutoSeq1.sub_list_list) (AnswersAll.cons (Answers.of_false_list (by decide +kernel) (by rfl) AutoSeq1.sub_list_tuple) AnswersAll.nil)) ⟨_, h1, rfl⟩ ht rfl fun tk => ?_
      exact ⟨H, S.toks tk, h⟩
    · exact h.elim
  · exact h.elim
def IsSetN (prog : Program) (w : World) (F : FF) (H : Hp) (k : Nat) (r : Value) (s : Shared) : Prop :=
  St prog w F H s ∧ ∃ a o es ep t, r = .ref a ∧ s.heap.get? a = some o ∧ o.ExactSet ∧ o.data = .set es ep t ∧ t.fits es.size = true ∧ es.size = k ∧ es.size < scanBound

theorem dedup_len : ∀ (l acc : List Int), acc.Nodup → ((l.foldl step_dedup acc).length ≤ acc.length + l.length ∧ ((l.foldl step_dedup acc).length = acc.length + l.length ↔ (acc ++ l).Nodup))
  | [], acc, h => by simpa using h
  | x :: r, acc, h => by
    rw [List.foldl_cons]
    by_cases hx : x ∈ acc
    · have e : step_dedup acc x = acc := by unfold step_dedup; simp [hx]
      rw [e]
      obtain ⟨i1, i2⟩ := dedup_len r acc h
      refine ⟨by simp; omega, ⟨fun q => by simp at q; omega, fun q => ?_⟩⟩
      rw [List.nodup_append] at q
      exact absurd rfl (q.2.2 x hx x (by simp))
    · have e : step_dedup acc x = acc ++ [x] := by unfold step_dedup; simp [hx]
      rw [e]
      have hn : (acc ++ [x]).Nodup := by
        rw [List.nodup_append]
        exact ⟨h, by simp, fun a ha b hb => by simp at hb; subst hb; rintro rfl; exact hx ha⟩
      obtain ⟨i1, i2⟩ := dedup_len r (acc ++ [x]) hn
      rw [List.append_assoc] at i2
      simp only [List.length_append, List.length_cons, List.length_nil, List.singleton_append] at i1 i2 ⊢
      refine ⟨by omega, ?_⟩
      rw [← i2]
      omega
theorem firstMet_len (ns : List Int) : ((firstMet (fun i => ns.getD i 0) ns.length).length = ns.length ↔ ns.Nodup) := by
  have e : (List.range ns.length).map (fun i => ns.getD i 0) = ns := by
    refine List.ext_getElem (by simp) fun i h1 h2 => ?_
    simp at h1 ⊢
    simp [h1]
  unfold firstMet
  rw [e]
  simpa using (dedup_len ns [] List.nodup_nil).2

theorem intsAre_of : ∀ (l : List Value), (∀ v ∈ l, ∃ i t, v = .int i t) → IntsAre l ((l.map ab).map AV.num)
  | [], _ => .nil
  | v :: r, h => by
    obtain ⟨i, t, rfl⟩ := h v (by simp)
    exact .cons i t (intsAre_of r fun u hu => h u (by simp [hu]))

theorem setOf_list (R : Room fs A n) {x : Value} {Q : AV → Hp → Prop} (h : lensetP (ab x) Q H) (S : St prog w F H s) :
    wpAny (model prog w) A (call (.type "set") [x]) (fun r s' => ∃ k : Nat, Q (.int k) H ∧ IsSetN prog w F H k r s') (fun _ _ => False) s := by
  unfold lensetP at h
  split at h
  · rename_i a e
    obtain rfl := ab_ref e
    split at h
    · rename_i ns hx
      obtain ⟨hz, h⟩ := h
      unfold intsOf at hx
      split at hx
      · rename_i ys hy
        split at hx
        · rename_i hall
          obtain rfl := Option.some.inj hx
          obtain ⟨items, m, h1, rfl, h2⟩ := S.list hy
          rw [List.length_map, abl_length] at hz
          have hi : IntsAre items.toList ((abl items).map AV.num) := by
            exact intsAre_of items.toList fun v hv => abl_all items hall v (by simpa using hv)
          refine PySem.call_set_list R.handled (listO_is h1) hi (by unfold scanBound; omega) fun h' tk hS hk => ?_
          obtain ⟨o, es, ep, t, ho, hex, hd, hel, _, hsz, hf, hnn⟩ := hS
          refine ⟨_, h _ ?_, S.keeps (fun b o e => hk b o (Heap.lt_size e) e) tk, _, o, es, ep, t, rfl, ho, hex, hd, hf, hnn, hsz⟩
          have := firstMet_len ((abl items).map AV.num)
          rw [List.length_map, abl_length] at this ⊢
          exact this
        · cases hx
      · cases hx
    · exact h.elim
  · exact h.elim
theorem len_setN {k : Nat} {r : Value} {Q : AV → Hp → Prop} (hq : Q (.int k) H) (I : IsSetN prog w F H k r s) : wpAny (model prog w) A (call (.builtin "len") [r]) (fun v s' => ∃ H', St prog w F H' s' ∧ Q (ab v) H') (fun _ _ => False) s := by
  obtain ⟨S, a, o, es, ep, t, rfl, ho, hex, hd, hf, rfl, hz⟩ := I
  exact call_len_set ho hex hd hf (by unfold scanBound at hz; omega) ⟨H, S.toks _, hq⟩
end
end Csp

namespace Csp
open PySem PySem.W PySem.Calls PyProof.Rows PySem.SeqAt Builtin Builtin.ObjectAttr

def FF.put (F : FF) (a : Addr) (o : Obj) : FF := { F with k := fun b => if b = a then some o else F.k b }
def FF.cut (F : FF) (a : Addr) : FF := { F with k := fun b => if b = a then none else F.k b }
theorem FF.put_self (F : FF) (a : Addr) (o : Obj) : (F.put a o).k a = some o := by simp [FF.put]
theorem FF.put_ne {F : FF} {a b : Addr} {o : Obj} (h : b ≠ a) : (F.put a o).k b = F.k b := by simp [FF.put, h]
theorem FF.cut_ne {F : FF} {a b : Addr} (h : b ≠ a) : (F.cut a).k b = F.k b := by simp [FF.cut, h]

section
variable {prog : Program} {w : World} {fs : List Env} {A : Around} {F : FF} {H : Hp} {s : Shared} {n : Nat}

/-- an object that is known, and no sequence, is not owned -/
theorem St.noOwn (S : St prog w F H s) {a : Addr} {o : Obj} (h : F.k a = some o) (hd : ∀ items n, o.data ≠ .seq items n) : H a = none := by
  cases e : H a with
  | none => rfl
  | some x =>
    obtain ⟨o', h1, h2, h3, h4⟩ := S.own a x e
    cases hr : x.isRo with
    | true =>
      have := (h3 hr).1
      rw [h] at this
      obtain rfl := Option.some.inj this
      cases x <;> simp [AO.isRo] at hr
      obtain ⟨items, n, _, q, _⟩ := h2
      exact absurd q (hd _ _)
    | false =>
      have := (h4 hr).1
      rw [h] at this; cases this
/-- a known object changes -/
theorem St.frameL (S : St prog w F H s) {a : Addr} {o o' o'' : Obj} {h' : Heap} (h : F.k a = some o) (hd : ∀ items n, o.data ≠ .seq items n) (hs : Heap.ExtBut a s.heap h') (ho : h'.get? a = some o'') (hl : Lo F.os.2 o' o'') (t : Nat) :
    St prog w (F.put a o') H { s with heap := h', toks := t } := by
  have hH := S.noOwn h hd
  refine ⟨fun b x e => ?_, fun b x e => ?_, ?_, ?_, S.gens, S.os⟩
  · by_cases hb : b = a
    · subst hb; rw [FF.put_self] at e; cases e; exact ⟨_, ho, hl⟩
    · rw [FF.put_ne hb] at e; obtain ⟨o₂, g1, g2⟩ := S.keep b x e; exact ⟨o₂, hs b o₂ hb g1, g2⟩
  · have hb : b ≠ a := by rintro rfl; rw [hH] at e; cases e
    obtain ⟨o₁, h1, h2, h3, h4⟩ := S.own b x e
    exact ⟨o₁, hs b o₁ hb h1, h2, fun q => by rw [FF.put_ne hb]; exact h3 q, fun q => by rw [FF.put_ne hb]; exact h4 q⟩
  · by_cases hb : (347 : Addr) = a
    · subst hb; rw [FF.put_self]; rfl
    · rw [FF.put_ne hb]; exact S.top
  · obtain ⟨q, q1, q2⟩ := S.sa
    have hb : F.sa ≠ a := by rintro rfl; rw [q1] at h; cases h; obtain ⟨i, m, q2⟩ := q2; exact hd _ _ q2
    exact ⟨q, (FF.put_ne hb).trans q1, q2⟩
theorem St.frame (S : St prog w F H s) {a : Addr} {o o' : Obj} {h' : Heap} (h : F.k a = some o) (hd : ∀ items n, o.data ≠ .seq items n) (hs : Heap.ExtBut a s.heap h') (ho : h'.get? a = some o') (t : Nat) :
    St prog w (F.put a o') H { s with heap := h', toks := t } := S.frameL h hd hs ho (.inl rfl) t
/-- a known object is forgotten -/
theorem St.forget (S : St prog w F H s) {a : Addr} {o : Obj} {h' : Heap} (h : F.k a = some o) (hd : ∀ items n, o.data ≠ .seq items n) (h3 : a ≠ 347) (hs : Heap.ExtBut a s.heap h') (t : Nat) :
    St prog w (F.cut a) H { s with heap := h', toks := t } := by
  have hH := S.noOwn h hd
  refine ⟨fun b x e => ?_, fun b x e => ?_, ?_, ?_, S.gens, S.os⟩
  · by_cases hb : b = a
    · subst hb; simp [FF.cut] at e
    · rw [FF.cut_ne hb] at e; obtain ⟨o₂, g1, g2⟩ := S.keep b x e; exact ⟨o₂, hs b o₂ hb g1, g2⟩
  · have hb : b ≠ a := by rintro rfl; rw [hH] at e; cases e
    obtain ⟨o₁, h1, h2, h3, h4⟩ := S.own b x e
    exact ⟨o₁, hs b o₁ hb h1, h2, fun q => by rw [FF.cut_ne hb]; exact h3 q, fun q => by rw [FF.cut_ne hb]; exact h4 q⟩
  · rw [FF.cut_ne (Ne.symm h3)]; exact S.top
  · obtain ⟨q, q1, q2⟩ := S.sa
    have hb : F.sa ≠ a := by rintro rfl; rw [q1] at h; cases h; obtain ⟨i, m, q2⟩ := q2; exact hd _ _ q2
    exact ⟨q, (FF.cut_ne hb).trans q1, q2⟩
/-- a new object that is known, and not owned -/
theorem St.newKnownL (S : St prog w F H s) {a : Addr} {o o'' : Obj} {h' : Heap} (ha : s.heap.objs.size ≤ a) (hs : ∀ b o, s.heap.get? b = some o → h'.get? b = some o) (ho : h'.get? a = some o'') (hl : Lo F.os.2 o o'') (t : Nat) :
    St prog w (F.put a o) H { s with heap := h', toks := t } := by
  refine ⟨fun b x e => ?_, fun b x e => ?_, ?_, ?_, S.gens, S.os⟩
  · by_cases hb : b = a
    · subst hb; rw [FF.put_self] at e; cases e; exact ⟨_, ho, hl⟩
    · rw [FF.put_ne hb] at e; obtain ⟨o₂, g1, g2⟩ := S.keep b x e; exact ⟨o₂, hs b o₂ g1, g2⟩
  · have hb : b ≠ a := by rintro rfl; exact absurd (S.lt e) (Nat.not_lt.mpr ha)
    obtain ⟨o₁, h1, h2, h3, h4⟩ := S.own b x e
    exact ⟨o₁, hs b o₁ h1, h2, fun q => by rw [FF.put_ne hb]; exact h3 q, fun q => by rw [FF.put_ne hb]; exact h4 q⟩
  · rw [FF.put_ne (Nat.ne_of_lt (Nat.lt_of_lt_of_le S.size ha))]; exact S.top
  · obtain ⟨q, q1, q2⟩ := S.sa
    exact ⟨q, (FF.put_ne (Nat.ne_of_lt (Nat.lt_of_lt_of_le (S.ltF q1) ha))).trans q1, q2⟩
theorem St.newKnown (S : St prog w F H s) {a : Addr} {o : Obj} {h' : Heap} (ha : s.heap.objs.size ≤ a) (hs : ∀ b o, s.heap.get? b = some o → h'.get? b = some o) (ho : h'.get? a = some o) (t : Nat) :
    St prog w (F.put a o) H { s with heap := h', toks := t } := S.newKnownL ha hs ho (.inl rfl) t

/-! iterators -/
structure LIter (a : Addr) (i : Nat) (o : Obj) : Prop where
  cls : o.cls = .type "list_iterator"
  data : o.data = .fields #[.ref a, .int i 0]
inductive ItAt (H : Hp) : AV → List AV → Nat → Obj → Prop
  | list {a xs i o} : H a = some (.list xs) → LIter a i o → ItAt H (.ref a) xs i o
  | dom {a dx xs i o} : H a = some (.dom 303 dx xs) → LIter a i o → ItAt H (.ref a) xs i o
  | dict {a es ep i o} : H a = some (.dict es ep) → o.cls = .type "dict_keyiterator" → o.data = .fields #[.ref a, .int i 0, .int es.length 0, .int ep 0] → ItAt H (.ref a) (es.map fun p => .int p.1) i o
  | range {a lo hi i o} : H a = some (.range lo hi) → o = { cls := .type "range_iterator", dict := none, data := .fields #[rawInt (lo + (i : Nat)), rawInt (((hi - lo).toNat : Int) - (i : Nat)), rawInt 1], slots := #[] } →
      ItAt H (.ref a) ((List.range (hi - lo).toNat).map fun (k : Nat) => AV.int (lo + (k : Int))) i o
  | vals {a d es ep i o} : H a = some (.dvals d) → H d = some (.dict es ep) → o.cls = .type "dict_valueiterator" → o.data = .fields #[.ref d, .int i 0, .int es.length 0, .int ep 0] → ItAt H (.ref a) (es.map (·.2)) i o

theorem ItAt.noFrame {v : AV} {xs : List AV} {i : Nat} {o : Obj} (h : ItAt H v xs i o) : o.cls ≠ .type "frame" := by
  intro q
  cases h with
  | list _ l => rw [l.cls] at q; exact absurd q (by decide)
  | dom _ l => rw [l.cls] at q; exact absurd q (by decide)
  | dict _ c _ => rw [c] at q; exact absurd q (by decide)
  | range _ e => rw [e] at q; exact absurd (Value.type.inj (show Value.type "range_iterator" = .type "frame" from q)) (by decide)
  | vals _ _ c _ => rw [c] at q; exact absurd q (by decide)
theorem ItAt.noSeq {v : AV} {xs : List AV} {i : Nat} {o : Obj} (h : ItAt H v xs i o) : ∀ items n, o.data ≠ .seq items n := by
  intro items n q
  cases h with
  | list _ l => rw [l.data] at q; cases q
  | dom _ l => rw [l.data] at q; cases q
  | dict _ _ d => rw [d] at q; cases q
  | range _ e => rw [e] at q; cases q
  | vals _ _ _ d => rw [d] at q; cases q

theorem dom_iter (T : Stat fs w F) (S : St prog w F H s) {a dx : Addr} {xs : List AV} (hx : H a = some (.dom 303 dx xs)) {Q : Value → Shared → Prop} {E : Value → Shared → Prop}
    (hQ : Q (.ref s.heap.objs.size) { s with heap := s.heap.push { cls := .type "list_iterator", data := .fields #[.ref a, .int 0 0] } }) : wpAny (model prog w) A (pyIter (.ref a)) Q E s := by
  have X := T.inK S
  have L := fun M => St.domType S hx M
  unfold pyIter
  refine wpAny_bind (wpAny_bind ((L _).here ((looks_findIn X (k_dom_iter w)).here ?_)))
  show wpAny _ _ (callSpecialIfBoundUnlessNone? (.ref a) "__iter__" _ >>= _) _ _ s
  refine wpAny_bind ?_
  unfold callSpecialIfBoundUnlessNone? bindSpecialIfBound?
  refine wpAny_holding (wpAny_bind (wpAny_bind (wpAny_bind ((L _).here ((looks_findIn X (k_dom_iter w)).here ?_)))))
  have call0 : wpAny (model prog w) A (call (.builtin "list.__iter__") [.ref a]) (fun it s' => it = .ref s.heap.objs.size ∧ s' = { s with heap := s.heap.push { cls := .type "list_iterator", data := .fields #[.ref a, .int 0 0] } }) E s := by
    refine dom_call (name := "__iter__") X L slot_list_iter entry_list_iter (.inl (by decide +kernel)) (by decide +kernel) (args_list_iter _) ?_
    show wpAny _ _ (do ret (← newFields "list_iterator" [.ref a, rawInt 0])) _ _ s
    exact wpAny_bind (wpAny_newObj_type (wpAny_pure ⟨_, rfl, rfl, rfl⟩))
  refine wpAny_bind (wpAny_askSetting (wpAny_ite ?_))
  have sl := slot_list_iter.bind (.ref a)
  rw [sl]
  split
  · refine wpAny_bind (wpAny_pure (wpAny_pure ?_))
    dsimp only
    rw [if_neg (by decide)]
    refine wpAny_bind (wpAny_mono call0 (fun it s' z => ?_) fun _ _ e => e)
    obtain ⟨rfl, rfl⟩ := z
    exact wpAny_pure (wpAny_bind (wpAny_specialOf ⟨_, Heap.get?_push_size _ rfl, rfl⟩ slot_listiter_next.lookup (wpAny_pure hQ)))
  · refine wpAny_tryCatch (wpAny_bind (wpAny_pure (wpAny_pure ?_)))
    dsimp only
    rw [if_neg (by decide)]
    refine wpAny_bind (wpAny_mono call0 (fun it s' z => ?_) fun _ _ e => e)
    obtain ⟨rfl, rfl⟩ := z
    exact wpAny_pure (wpAny_bind (wpAny_specialOf ⟨_, Heap.get?_push_size _ rfl, rfl⟩ slot_listiter_next.lookup (wpAny_pure hQ)))

theorem tx_pyIter (T : Stat fs w F) (R : Room fs A n) {v : Value} {xs : List AV} (hi : itemsOf H (ab v) = some xs) (S : St prog w F H s) {Q : Value → Shared → Prop} {E : Value → Shared → Prop}
    (h : ∀ o, o.isFreed = false → ItAt H (ab v) xs 0 o → Q (.ref s.heap.objs.size) { s with heap := s.heap.push o }) : wpAny (model prog w) A (pyIter v) Q E s := by
  unfold itemsOf at hi
  split at hi
  · rename_i a e
    obtain rfl := ab_ref e
    split at hi
    · rename_i ys hx
      obtain rfl := Option.some.inj hi
      obtain ⟨items, m, h1, rfl, h2⟩ := S.list hx
      exact wpAny_pyIter_list (listO_is h1) (h _ rfl (.list hx ⟨rfl, rfl⟩))
    · rename_i C dx ys hx
      split at hi
      · rename_i hC
        subst hC
        obtain rfl := Option.some.inj hi
        exact dom_iter T S hx (h _ rfl (.dom hx ⟨rfl, rfl⟩))
      · cases hi
    · rename_i es ep hx
      obtain rfl := Option.some.inj hi
      obtain ⟨kvs, h1, e2, h2⟩ := S.dict hx
      have hl : kvs.length = es.length := by rw [← e2, List.length_map]
      refine wpAny_pyIter_dict (S.notMods T hx rfl) h1 ?_
      rw [hl]
      exact h _ rfl (.dict hx rfl rfl)
    · rename_i lo hi' hx
      obtain rfl := Option.some.inj hi
      obtain ⟨o, h1, t, u, v, rfl, hs⟩ := S.get hx
      refine wpAny_pyIter_range h1 hs ?_
      have e : Builtin.Range.rangeSize lo hi' 1 = ((hi' - lo).toNat : Int) := by rw [rangeSize_one]; split <;> omega
      rw [e]
      exact h _ rfl (.range hx (by simp))
    · rename_i d hx
      split at hi
      · rename_i es ep hd
        obtain rfl := Option.some.inj hi
        obtain ⟨kvs, h1, e2, h2⟩ := S.dict hd
        have hl : kvs.length = es.length := by rw [← e2, List.length_map]
        obtain ⟨o, h3, h4, h5⟩ := S.get hx
        refine wpAny_pyIter_values ⟨o, h3, h4, h5⟩ h1 ?_
        rw [hl]
        exact h _ rfl (.vals hx hd rfl rfl)
      · cases hi
    · cases hi
  · cases hi

/-- a list's iterator over any object with items -/
theorem lnext_item {it l : Addr} {i : Nat} {o ol : Obj} {items : Array Value} {m : Nat} {x : Value} {Q : Option Value → Shared → Prop} {E : Value → Shared → Prop} (ho : s.heap.get? it = some o) (hL : LIter l i o)
    (hol : s.heap.get? l = some ol) (hdl : ol.data = .seq items m) (hx : items[i]? = some x)
    (hQ : ∀ h' o', h'.get? it = some o' → LIter l (i + 1) o' → Heap.SameBut it s.heap h' → Q (some x) { s with heap := h' }) :
    wpAny (model prog w) A (pyNext (.ref it)) Q E s := by
  obtain ⟨hc, hd⟩ := hL
  have hit : s.heap.IsListIter it l i := ⟨o, ho, hc, hd⟩
  unfold pyNext
  refine wpAny_bind (wpAny_attempt (wpAny_callSpecial?_slot (name := Str.ofString "__next__") hit.typeIs slot_listiter_next
    (wpAny_call_entry slot_listiter_next hit.typeIs entry_listiter_next ?_ (args_listiter_next _))))
  show wpAny _ _ (field (.ref it) 0 >>= _) _ _ s
  refine wpAny_bind (wpAny_field ho hd (x := .ref l) rfl ?_)
  show wpAny _ _ (if (Value.ref l == Value.none) = true then _ else _) _ _ s
  rw [if_neg (show ¬ ((Value.ref l == Value.none) = true) from Bool.false_ne_true)]
  show wpAny _ _ (field (.ref it) 1 >>= _) _ _ s
  refine wpAny_bind (wpAny_field ho hd (x := .int i 0) rfl ?_)
  show wpAny _ _ (seqItems? (.ref l) >>= _) _ _ s
  refine wpAny_bind (wpAny_seqItems hol hdl ?_)
  simp only [Int.toNat_natCast, hx]
  refine wpAny_bind (wpAny_setField ho hd (by simp) (wpAny_pure ⟨x, rfl, wpAny_pure (hQ _ _ (Heap.get?_update_self _ ho (Obj.isFreed_of_fields (Obj.data_mapFields hd _))) ⟨(Obj.cls_mapFields ..).trans hc, ?_⟩ (Heap.SameBut.update ..))⟩))
  rw [Obj.data_mapFields hd]; simp [rawInt]
theorem lnext_end {it l : Addr} {i : Nat} {o ol : Obj} {items : Array Value} {m : Nat} {Q : Option Value → Shared → Prop} {E : Value → Shared → Prop} (hh : A.handled = none) (ho : s.heap.get? it = some o) (hL : LIter l i o)
    (hol : s.heap.get? l = some ol) (hdl : ol.data = .seq items m) (hx : items[i]? = none)
    (hQ : ∀ h', Heap.ExtBut it s.heap h' → Q none { s with heap := h' }) : wpAny (model prog w) A (pyNext (.ref it)) Q E s := by
  obtain ⟨hc, hd⟩ := hL
  have hit : s.heap.IsListIter it l i := ⟨o, ho, hc, hd⟩
  unfold pyNext
  refine wpAny_bind (wpAny_attempt (wpAny_callSpecial?_slot (name := Str.ofString "__next__") hit.typeIs slot_listiter_next
    (wpAny_call_entry slot_listiter_next hit.typeIs entry_listiter_next ?_ (args_listiter_next _))))
  show wpAny _ _ (field (.ref it) 0 >>= _) _ _ s
  refine wpAny_bind (wpAny_field ho hd (x := .ref l) rfl ?_)
  show wpAny _ _ (if (Value.ref l == Value.none) = true then _ else _) _ _ s
  rw [if_neg (show ¬ ((Value.ref l == Value.none) = true) from Bool.false_ne_true)]
  show wpAny _ _ (field (.ref it) 1 >>= _) _ _ s
  refine wpAny_bind (wpAny_field ho hd (x := .int i 0) rfl ?_)
  show wpAny _ _ (seqItems? (.ref l) >>= _) _ _ s
  refine wpAny_bind (wpAny_seqItems hol hdl ?_)
  simp only [Int.toNat_natCast, hx]
  refine wpAny_bind (wpAny_rule (wpAny_bind (wpAny_setField ho hd (by simp) ?_)))
  show wpAny _ _ (newExc (.type "StopIteration") [] >>= _) _ _ _
  refine wpAny_bind ?_
  simp only [newExc, newTuple]
  refine wpAny_bind (wpAny_newObj_type ?_ (by size_fits))
  refine wpAny_bind (m := firstArgMember _ _) (wpAny_of_eq (a := Value.none) (by first | rfl | (simp only [firstArgMember]; rfl)) ?_)
  refine wpAny_newObj_type ?_ (by size_fits)
  simp only [raiseNew]
  refine wpAny_bind (wpAny_handled ?_)
  rw [show A.in1.handled = none from hh]
  refine wpAny_bind (wpAny_pure (wpAny_throw ?_))
  refine wpAny_bind (wpAny_isInstance (T := "StopIteration") (b := true) ⟨_, Heap.get?_push_size _ rfl, rfl⟩ isSubtype_stop ?_)
  exact wpAny_pure (hQ _ (((Heap.SameBut.update ..).extBut.push _).push _))

/-- what a step of an iteration leaves -/
def Stepped (prog : Program) (w : World) (F : FF) (H H' : Hp) (v : AV) (xs : List AV) (i : Nat) (ia : Addr) (r : Option Value) (s' : Shared) : Prop := match r with
  | some u => xs[i]? = some (ab u) ∧ ∃ o', ItAt H v xs (i + 1) o' ∧ St prog w (F.put ia o') H' s'
  | none => xs[i]? = none ∧ St prog w (F.cut ia) H' s'

theorem tx_pyNext (R : Room fs A n) {v : AV} {xs : List AV} {i : Nat} {ia : Addr} {o : Obj} {H' : Hp} (I : ItAt H v xs i o) (hF : F.k ia = some o) (h3 : ia ≠ 347) (hs : sameSrc H H' v) (S : St prog w F H' s) :
    wpAny (model prog w) A (pyNext (.ref ia)) (fun r s' => Stepped prog w F H H' v xs i ia r s') (fun _ _ => False) s := by
  have ho := S.keepX hF I.noFrame
  have ns := I.noSeq
  have put : ∀ {h' : Heap} {o' : Obj} (tk : Nat), Heap.SameBut ia s.heap h' → h'.get? ia = some o' → St prog w (F.put ia o') H' { s with heap := h', toks := tk } := fun tk a b => S.frame hF ns a.extBut b tk
  have cut : ∀ {h' : Heap} (tk : Nat), Heap.ExtBut ia s.heap h' → St prog w (F.cut ia) H' { s with heap := h', toks := tk } := fun tk a => S.forget hF ns h3 a tk
  have hh := R.handled
  cases I with
  | @list a xs i o hx hL =>
    have hx' : H' a = some (.list xs) := hs.1.trans hx
    obtain ⟨items, m, h1, rfl, h2⟩ := S.list hx'
    cases e : items[i]? with
    | some u => exact lnext_item ho hL h1 rfl e fun h' o' q1 q2 q3 => ⟨by rw [abl_get, e]; rfl, o', .list hx q2, put _ q3 q1⟩
    | none => exact lnext_end hh ho hL h1 rfl e fun h' q => ⟨by rw [abl_get, e]; rfl, cut _ q⟩
  | @dom a dx xs i o hx hL =>
    have hx' : H' a = some (.dom 303 dx xs) := hs.1.trans hx
    obtain ⟨oo, h1, items, m, sl, rfl, rfl, h2⟩ := S.get hx'
    cases e : items[i]? with
    | some u => exact lnext_item ho hL h1 rfl e fun h' o' q1 q2 q3 => ⟨by rw [abl_get, e]; rfl, o', .dom hx q2, put _ q3 q1⟩
    | none => exact lnext_end hh ho hL h1 rfl e fun h' q => ⟨by rw [abl_get, e]; rfl, cut _ q⟩
  | @dict a es ep i o hx hc hd =>
    have hx' : H' a = some (.dict es ep) := hs.1.trans hx
    obtain ⟨kvs, h1, e2, h2⟩ := S.dict hx'
    have hl : kvs.length = es.length := by rw [← e2, List.length_map]
    have hit : s.heap.IsKeyIter ia a i kvs.length ep := ⟨o, ho, hc, by rw [hl]; exact hd⟩
    cases e : kvs[i]? with
    | some p =>
      obtain ⟨k, x⟩ := p
      refine wpAny_pyNext_dict_item hit h1 e fun key h' hk q1 q2 => ?_
      obtain ⟨o', g1, g2, g3⟩ := q1
      refine ⟨?_, o', .dict hx g2 (by rw [g3, hl]), put _ q2 g1⟩
      obtain ⟨t, rfl⟩ := Value.isInt_shape hk
      rw [← e2]; simp [e, ab]
    | none => exact wpAny_pyNext_dict_end hh hit h1 e fun h' q => ⟨by rw [← e2]; simpa using e, cut _ q⟩
  | @range a lo hi i o hx e =>
    subst e
    by_cases hlt : i < (hi - lo).toNat
    · refine wpAny_pyNext_range_item ho (by omega) fun h' q1 q2 => ⟨?_, _, .range hx ?_, put _ q2 q1⟩
      · rw [List.getElem?_map, List.getElem?_range hlt]; rfl
      · have a1 : lo + (i : Int) + 1 = lo + ((i + 1 : Nat) : Int) := by push_cast; omega
        have a2 : ((hi - lo).toNat : Int) - (i : Int) - 1 = ((hi - lo).toNat : Int) - ((i + 1 : Nat) : Int) := by push_cast; omega
        rw [a1, a2]
    · refine wpAny_pyNext_range_end hh ho (by omega) fun h' q => ⟨?_, cut _ q⟩
      rw [List.getElem?_eq_none]; simp; omega
  | @vals a d es ep i o hx hd hc hdt =>
    have hx' : H' a = some (.dvals d) := hs.1.trans hx
    have hd' : H' d = some (.dict es ep) := by
      have := hs.2
      rw [hx] at this
      exact this.trans hd
    obtain ⟨kvs, h1, e2, h2⟩ := S.dict hd'
    have hl : kvs.length = es.length := by rw [← e2, List.length_map]
    have hit : s.heap.IsValIter ia d i kvs.length ep := ⟨o, ho, hc, by rw [hl]; exact hdt⟩
    cases e : kvs[i]? with
    | some p =>
      obtain ⟨k, x⟩ := p
      refine wpAny_pyNext_values_item hit h1 e fun h' q1 q2 => ?_
      obtain ⟨o', g1, g2, g3⟩ := q1
      refine ⟨?_, o', .vals hx hd g2 (by rw [g3, hl]), put _ q2 g1⟩
      rw [← e2]; simp [e]
    | none => exact wpAny_pyNext_values_end hh hit h1 e fun h' q => ⟨by rw [← e2]; simpa using e, cut _ q⟩
end
end Csp

namespace Csp
open PySem PySem.W PySem.Calls PyProof.Rows PySem.SeqAt Builtin Builtin.ObjectAttr

/-- a frame that holds what m says -/
structure FrIn (env : Env) (F : FF) (m : Loc) : Prop where
  kind : env.scope.kind = .function
  glob : env.globals = mainGlobals
  blt : env.builtins = builtinsNs
  ns : ∃ o es ep, F.k env.locals = some o ∧ o.data = .dict es ep ∧ StrKeys es ∧ ∀ x v, env.kindOf (Str.ofString x) = some .local → m x = some v → ∃ u, nsFind es (Str.ofString x) = some u ∧ ab u = v
  cell : ∀ x v, (env.kindOf (Str.ofString x) = some .cell ∨ env.kindOf (Str.ofString x) = some .free) → m x = some v → ∃ c o u, env.cells.lookup (Str.ofString x) = some c ∧ F.k c = some o ∧ o.data = .cell (some u) ∧ ab u = v
  holds : ∀ x, env.kindOf x = some .cell → ∃ c o u, env.cells.lookup x = some c ∧ F.k c = some o ∧ o.data = .cell u
  apart : env.cells.Pairwise fun x y => x.2 ≠ y.2
  off : ∀ x c, (x, c) ∈ env.cells → c ≠ env.locals
  fcls : ∀ o, F.k env.locals = some o → o.cls = .type "frame" ∧ o.dict = some F.os.2

/-- what is known beside the frame -/
structure Base (env : Env) (F0 F : FF) : Prop where
  ext : ∀ a o, F0.k a = some o → F.k a = some o
  os : F.os = F0.os
  sa : F.sa = F0.sa
  off : F0.k env.locals = none
/-- the frame's own cells are none of what is known beside it -/
def BaseC (env : Env) (F0 : FF) : Prop := ∀ x c, env.kindOf x = some .cell → env.cells.lookup x = some c → F0.k c = none

section
variable {prog : Program} {w : World} {fs : List Env} {A : Around} {F F0 : FF} {H : Hp} {s : Shared} {n : Nat} {env : Env} {m : Loc}

theorem FrIn.nsAt (I : FrIn env F m) (S : St prog w F H s) : ∃ mm, s.heap.Ns env.locals mm ∧ ∀ x v, env.kindOf (Str.ofString x) = some .local → m x = some v → ∃ u, mm (Str.ofString x) = some u ∧ ab u = v := by
  obtain ⟨o, es, ep, h1, h2, h3, h4⟩ := I.ns
  obtain ⟨o', g1, g2⟩ := S.keepD h1
  exact ⟨nsFind es, ⟨o', es, ep, g1, g2.trans h2, h3, fun _ => rfl⟩, h4⟩

theorem FrIn.mono (I : FrIn env F m) {F' : FF} (h : ∀ a o, F.k a = some o → F'.k a = some o) (ho : F'.os = F.os) : FrIn env F' m := by
  obtain ⟨o, es, ep, h1, h2⟩ := I.ns
  refine ⟨I.kind, I.glob, I.blt, ⟨o, es, ep, h _ _ h1, h2⟩, fun x v hk hm => ?_, fun x hk => ?_, I.apart, I.off, fun o' e => by rw [h _ _ h1] at e; cases e; rw [ho]; exact I.fcls _ h1⟩
  · obtain ⟨c, o, u, a1, a2, a3⟩ := I.cell x v hk hm; exact ⟨c, o, u, a1, h _ _ a2, a3⟩
  · obtain ⟨c, o, u, a1, a2, a3⟩ := I.holds x hk; exact ⟨c, o, u, a1, h _ _ a2, a3⟩

/-- a name of the frame -/
theorem tx_local (I : FrIn env F m) {x : String} {v : AV} {pos : Pos} {Q : AV → Hp → Prop} (hk : env.kindOf (Str.ofString x) = some .local ∨ env.kindOf (Str.ofString x) = some .cell ∨ env.kindOf (Str.ofString x) = some .free)
    (hn : (Str.ofString x == ("__debug__" : Str)) = false ∧ (Str.ofString x == ("__classdict__" : Str)) = false) (hm : m x = some v) (h : Q v H) : TX prog w A F (eval (.Name (Str.ofString x) pos) env) (fun u H' => Q (ab u) H') H := by
  intro s S
  refine wpAny_Name ?_ hn.1
  rcases hk with hk | hk | hk
  · obtain ⟨mm, h1, h2⟩ := I.nsAt S
    obtain ⟨u, e1, e2⟩ := h2 x v hk hm
    exact wpAny_loadName_local I.kind hk h1 e1 ⟨H, S, by show Q (ab u) H; rw [e2]; exact h⟩
  · obtain ⟨c, o, u, a1, a2, a3, a4⟩ := I.cell x v (.inl hk) hm
    exact wpAny_loadName_cell I.kind hk a1 (let ⟨o', g1, g2⟩ := S.keepD a2; ⟨o', g1, g2.trans a3⟩) ⟨H, S, by show Q (ab u) H; rw [a4]; exact h⟩
  · obtain ⟨c, o, u, a1, a2, a3, a4⟩ := I.cell x v (.inr hk) hm
    exact wpAny_loadName_free I.kind hk a1 (let ⟨o', g1, g2⟩ := S.keepD a2; ⟨o', g1, g2.trans a3⟩) ⟨H, S, by show Q (ab u) H; rw [a4]; exact h⟩ hn.2

theorem tx_loadLocal (I : FrIn env F m) {x : String} {v : AV} {Q : AV → Hp → Prop} (hk : env.kindOf (Str.ofString x) = some .local ∨ env.kindOf (Str.ofString x) = some .cell)
    (hm : m x = some v) (h : Q v H) : TX prog w A F (loadName env (Str.ofString x)) (fun u H' => Q (ab u) H') H := by
  intro s S
  rcases hk with hk | hk
  · obtain ⟨mm, h1, h2⟩ := I.nsAt S
    obtain ⟨u, e1, e2⟩ := h2 x v hk hm
    exact wpAny_loadName_local I.kind hk h1 e1 ⟨H, S, by show Q (ab u) H; rw [e2]; exact h⟩
  · obtain ⟨c, o, u, a1, a2, a3, a4⟩ := I.cell x v (.inl hk) hm
    exact wpAny_loadName_cell I.kind hk a1 (let ⟨o', g1, g2⟩ := S.keepD a2; ⟨o', g1, g2.trans a3⟩) ⟨H, S, by show Q (ab u) H; rw [a4]; exact h⟩

/-- what a global name of the text gives -/
noncomputable def gval (w : World) (x : String) : Option Value := match nsIn (KK w) mainGlobals (Str.ofString x) with
  | some (some v) => some v
  | some none => if Str.ofString x == ("__name__" : Str) then none else bootBuiltins (Str.ofString x)
  | none => none

theorem tx_global (I : FrIn env F m) (T : Stat fs w F) {x : String} {v : Value} {pos : Pos} {Q : Value → Hp → Prop} (hk : env.kindOf (Str.ofString x) = some .globalImplicit) (hn : (Str.ofString x == ("__debug__" : Str)) = false)
    (hv : gval w x = some v) (h : Q v H) : TX prog w A F (eval (.Name (Str.ofString x) pos) env) Q H := by
  intro s S
  refine Name_function_global I.kind hk ?_ hn
  have X := T.inK S
  unfold gval at hv
  unfold loadGlobal
  rw [I.glob, I.blt]
  split at hv
  · rename_i u e
    cases hv
    exact wpAny_bind ((looks_nsIn X e).here (wpAny_pure ⟨H, S, h⟩))
  · rename_i e
    split at hv
    · cases hv
    · rename_i hne
      obtain ⟨o, es, ep, h1, h2, h3, h4⟩ := T.bi
      obtain ⟨o', g1, g2⟩ := S.keepD h1
      refine wpAny_bind ((looks_nsIn X e).here (wpAny_bind (wpAny_nsGet (m := nsFind es) ⟨o', es, ep, g1, g2.trans h2, h3, fun _ => rfl⟩ ?_)))
      rw [h4 _ (fun q => hne (by rw [q]; exact beq_self_eq_true _)), hv]
      exact wpAny_pure ⟨H, S, h⟩
  · cases hv

theorem str_ne {x y : String} (h : x ≠ y) : Str.ofString x ≠ Str.ofString y := fun e => h (ofString_inj e)

/-- a store into the frame -/
theorem tx_store (I : FrIn env F m) (B : Base env F0 F) (S : St prog w F H s) {x : String} {u : Value} (hk : env.kindOf (Str.ofString x) = some .local ∨ (env.kindOf (Str.ofString x) = some .cell ∧ BaseC env F0)) {Q : Unit → Shared → Prop} {E : Value → Shared → Prop}
    (h : ∀ F' s', FrIn env F' (upL m x (ab u)) → Base env F0 F' → St prog w F' H s' → Q () s') : wpAny (model prog w) A (storeName env (Str.ofString x) u) Q E s := by
  rcases hk with hk | ⟨hk, BC⟩
  · obtain ⟨o, es, ep, h1, h2, h3, h4⟩ := I.ns
    obtain ⟨oo, gg1, gg2⟩ := S.keepD h1
    have hns : s.heap.Ns env.locals (nsFind es) := ⟨oo, es, ep, gg1, gg2.trans h2, h3, fun _ => rfl⟩
    refine wpAny_storeName_local hk hns (fun h' hn' hs' => ?_) (by rw [I.kind]; rfl)
    obtain ⟨o', es', ep', g1, g2, g3, g4⟩ := hn'
    have nd : ∀ items n, o.data ≠ .seq items n := fun _ _ q => by rw [h2] at q; cases q
    refine h (F.put env.locals { cls := .type "frame", dict := some F.os.2, data := .dict es' ep' }) _ ⟨I.kind, I.glob, I.blt, ⟨_, es', ep', FF.put_self .., rfl, g3, fun y v hy hm => ?_⟩, fun y v hy hm => ?_, fun y hy => ?_, I.apart, I.off, fun o2 e2 => by rw [FF.put_self] at e2; cases e2; exact ⟨rfl, rfl⟩⟩ ⟨fun a q e => ?_, B.os, B.sa, B.off⟩ (S.frameL h1 nd hs'.extBut g1 (.inr ⟨rfl, rfl, g2⟩) _)
    · refine (show (∃ u', (if Str.ofString y = Str.ofString x then some u else nsFind es (Str.ofString y)) = some u' ∧ ab u' = v) → ∃ u', nsFind es' (Str.ofString y) = some u' ∧ ab u' = v from fun z => by rw [g4]; exact z) ?_
      unfold upL at hm
      by_cases e : y = x
      · subst e
        rw [if_pos rfl] at hm; cases hm
        exact ⟨u, if_pos rfl, rfl⟩
      · rw [if_neg e] at hm
        rw [if_neg (str_ne e)]
        exact h4 y v hy hm
    · have e : y ≠ x := by
        rintro rfl
        rw [hk] at hy; rcases hy with hy | hy <;> cases hy
      unfold upL at hm
      rw [if_neg e] at hm
      obtain ⟨c, oc, v', a1, a2, a3, a4⟩ := I.cell y v hy hm
      exact ⟨c, oc, v', a1, by rw [FF.put_ne (I.off _ _ (mem_of_lookup a1))]; exact a2, a3, a4⟩
    · obtain ⟨c, oc, v', a1, a2, a3⟩ := I.holds y hy
      exact ⟨c, oc, v', a1, by rw [FF.put_ne (I.off _ _ (mem_of_lookup a1))]; exact a2, a3⟩
    · rw [FF.put_ne (by rintro rfl; rw [B.off] at e; cases e)]; exact B.ext a q e
  · obtain ⟨c, o, v0, a1, a2, a3⟩ := I.holds _ hk
    refine wpAny_storeName_cell I.kind hk a1 (let ⟨o', g1, g2⟩ := S.keepD a2; ⟨o', g1, g2.trans a3⟩) fun h' hc' hs' => ?_
    obtain ⟨o', g1, g2⟩ := hc'
    have nd : ∀ items n, o.data ≠ .seq items n := fun _ _ q => by rw [a3] at q; cases q
    have hcl : c ≠ env.locals := I.off _ _ (mem_of_lookup a1)
    obtain ⟨oL, es, ep, h1, h2, h3, h4⟩ := I.ns
    refine h (F.put c o') _ ⟨I.kind, I.glob, I.blt, ⟨oL, es, ep, by rw [FF.put_ne (Ne.symm hcl)]; exact h1, h2, h3, fun y v hy hm => ?_⟩, fun y v hy hm => ?_, fun y hy => ?_, I.apart, I.off, fun o2 e2 => by rw [FF.put_ne (Ne.symm hcl)] at e2; exact I.fcls _ e2⟩ ⟨fun a q e => ?_, B.os, B.sa, B.off⟩ (S.frame a2 nd hs'.extBut g1 s.toks)
    · have e : y ≠ x := by
        rintro rfl
        rw [hk] at hy; cases hy
      unfold upL at hm
      rw [if_neg e] at hm
      exact h4 y v hy hm
    · unfold upL at hm
      by_cases e : y = x
      · subst e
        rw [if_pos rfl] at hm; cases hm
        exact ⟨c, o', u, a1, FF.put_self .., g2, rfl⟩
      · rw [if_neg e] at hm
        obtain ⟨c', oc, v', b1, b2, b3, b4⟩ := I.cell y v hy hm
        have hne : c' ≠ c := by
          rintro rfl
          exact str_ne e (name_of_addr I.apart (mem_of_lookup b1) (mem_of_lookup a1))
        exact ⟨c', oc, v', b1, by rw [FF.put_ne hne]; exact b2, b3, b4⟩
    · by_cases e : y = Str.ofString x
      · subst e
        exact ⟨c, o', _, a1, FF.put_self .., g2⟩
      · obtain ⟨c', oc, v', b1, b2, b3⟩ := I.holds y hy
        have hne : c' ≠ c := by
          rintro rfl
          exact e (name_of_addr I.apart (mem_of_lookup b1) (mem_of_lookup a1))
        exact ⟨c', oc, v', b1, by rw [FF.put_ne hne]; exact b2, b3⟩
    · rw [FF.put_ne (by rintro rfl; rw [BC _ _ hk a1] at e; cases e)]; exact B.ext a q e

theorem FrIn.put (I : FrIn env F m) {ia : Addr} {o : Obj} {vs : Array Value} (h : F.k ia = some o) (hd : o.data = .fields vs) (o' : Obj) : FrIn env (F.put ia o') m := by
  obtain ⟨oL, es, ep, h1, h2, h3, h4⟩ := I.ns
  have nL : env.locals ≠ ia := by rintro rfl; rw [h1] at h; cases h; rw [h2] at hd; cases hd
  refine ⟨I.kind, I.glob, I.blt, ⟨oL, es, ep, by rw [FF.put_ne nL]; exact h1, h2, h3, h4⟩, fun x v hk hm => ?_, fun x hk => ?_, I.apart, I.off, fun o2 e2 => by rw [FF.put_ne nL] at e2; exact I.fcls _ e2⟩
  · obtain ⟨c, oc, u, a1, a2, a3, a4⟩ := I.cell x v hk hm
    have : c ≠ ia := by rintro rfl; rw [a2] at h; cases h; rw [a3] at hd; cases hd
    exact ⟨c, oc, u, a1, by rw [FF.put_ne this]; exact a2, a3, a4⟩
  · obtain ⟨c, oc, u, a1, a2, a3⟩ := I.holds x hk
    have : c ≠ ia := by rintro rfl; rw [a2] at h; cases h; rw [a3] at hd; cases hd
    exact ⟨c, oc, u, a1, by rw [FF.put_ne this]; exact a2, a3⟩
theorem FrIn.cut (I : FrIn env F m) {ia : Addr} {o : Obj} {vs : Array Value} (h : F.k ia = some o) (hd : o.data = .fields vs) : FrIn env (F.cut ia) m := by
  obtain ⟨oL, es, ep, h1, h2, h3, h4⟩ := I.ns
  have nL : env.locals ≠ ia := by rintro rfl; rw [h1] at h; cases h; rw [h2] at hd; cases hd
  refine ⟨I.kind, I.glob, I.blt, ⟨oL, es, ep, by rw [FF.cut_ne nL]; exact h1, h2, h3, h4⟩, fun x v hk hm => ?_, fun x hk => ?_, I.apart, I.off, fun o2 e2 => by rw [FF.cut_ne nL] at e2; exact I.fcls _ e2⟩
  · obtain ⟨c, oc, u, a1, a2, a3, a4⟩ := I.cell x v hk hm
    have : c ≠ ia := by rintro rfl; rw [a2] at h; cases h; rw [a3] at hd; cases hd
    exact ⟨c, oc, u, a1, by rw [FF.cut_ne this]; exact a2, a3, a4⟩
  · obtain ⟨c, oc, u, a1, a2, a3⟩ := I.holds x hk
    have : c ≠ ia := by rintro rfl; rw [a2] at h; cases h; rw [a3] at hd; cases hd
    exact ⟨c, oc, u, a1, by rw [FF.cut_ne this]; exact a2, a3⟩
theorem Base.put (B : Base env F0 F) {ia : Addr} (hn : env.locals ≠ ia) (o' : Obj) : Base env (F0.put ia o') (F.put ia o') := by
  refine ⟨fun a q e => ?_, B.os, B.sa, by rw [FF.put_ne hn]; exact B.off⟩
  by_cases h : a = ia
  · subst h; rw [FF.put_self] at e ⊢; exact e
  · rw [FF.put_ne h] at e ⊢; exact B.ext a q e
theorem Base.unput (B : Base env F0 F) {F1 : FF} (h : ∀ a o, F1.k a = some o → F0.k a = some o) (ho : F0.os = F1.os) (hs : F0.sa = F1.sa) (hl : F1.k env.locals = none) : Base env F1 F := ⟨fun a o e => B.ext a o (h a o e), B.os.trans ho, B.sa.trans hs, hl⟩
theorem FF.put_put (F : FF) (a : Addr) (o o' : Obj) : (F.put a o).put a o' = F.put a o' := by
  unfold FF.put
  congr 1
  funext b
  dsimp only
  by_cases h : b = a <;> simp [h]
theorem ItAt.fields {Hs : Hp} {v : AV} {xs : List AV} {i : Nat} {o : Obj} (h : ItAt Hs v xs i o) : ∃ vs, o.data = .fields vs := by
  cases h with
  | list _ l => exact ⟨_, l.data⟩
  | dom _ l => exact ⟨_, l.data⟩
  | dict _ _ d => exact ⟨_, d⟩
  | range _ e => exact ⟨_, by rw [e]⟩
  | vals _ _ _ d => exact ⟨_, d⟩
end
end Csp

namespace Csp
open PySem PySem.W PySem.Calls PyProof.Rows PySem.SeqAt Builtin Builtin.ObjectAttr

/-- the tests of a comprehension's clause -/
def tests (ifs : List Expr) (env : Env) : Sem Bool := forIn ifs true fun c r => if r = true then do let ok ← isTrue c env (eval c env); pure (ForInStep.yield ok) else pure (ForInStep.yield r)

section
variable {prog : Program} {w : World} {fs : List Env} {A : Around} {F F0 : FF} {H : Hp} {s : Shared} {n : Nat} {env : Env} {m : Loc}

/-- a name's store in a loop: the new name over the old one -/
theorem upL_over {m mm : Loc} {x : String} {y : AV} (h : ∀ z, upL mm x z = upL m x z) : ∀ z, upL (upL mm x y) x z = upL m x z := by
  intro z
  funext q
  have := congrFun (h z) q
  unfold upL at this ⊢
  by_cases e : q = x <;> simp [e] at this ⊢
  exact this

/-- what the last clause's loop leaves -/
def CompOut (prog : Program) (w : World) (env : Env) (F0 : FF) (m : Loc) (x : String) (fin : Hp → Prop) (ia : Addr) (s' : Shared) : Prop :=
  ∃ F' mm H', FrIn env F' mm ∧ (∀ z, upL mm x z = upL m x z) ∧ Base env F0 F' ∧ St prog w F' H' s' ∧ fin H'

/-- the last clause's loop -/
theorem comp_last {e : Expr} {d : Nat} {elt iter : Expr} {ifs : List Expr} {x : String} {px : Pos} {ia acc : Addr} (T : Stat fs w F0) (R : Room fs A n)
    (ht : compTurn e d (.ref ia) (.ref acc) env = (do
      standAt iter.pos
      match ← pyNext (.ref ia) with
      | none => pure (.done .next)
      | some v =>
        letOwnedTupleGo (.Name (Str.ofString x) px) (.ref ia) v
        assign (.Name (Str.ofString x) px) env v
        let mut ok := true
        for c in ifs do
          if ok then ok ← isTrue c env (eval c env)
        if ok then
          (do let _ ← call (.builtin "list.append") [.ref acc, ← eval elt env])
        again (.compLoop e d (.ref ia) (.ref acc) env)))
    (hfr : (Code.compLoop e d (.ref ia) (.ref acc) env).isFrame = false) (hq : (Code.compLoop e d (.ref ia) (.ref acc) env).quiet = true) (hun : ∀ A : Around, A.under (Code.compLoop e d (.ref ia) (.ref acc) env) = A)
    (hk : env.kindOf (Str.ofString x) = some .local) {Hs : Hp} {v : AV} {xs : List AV} {eltP : AV → PT AV} {testP : AV → PT Bool} {fin : Hp → Prop}
    (hElt : ∀ F' y Q H', FrIn env F' (upL m x y) → Stat fs w F' → eltP y Q H' → TX prog w A F' (eval elt env) (fun u H => Q (ab u) H) H')
    (hIfs : ∀ F' y Q H', FrIn env F' (upL m x y) → Stat fs w F' → testP y Q H' → TX prog w A F' (tests ifs env) (fun b H => Q b H) H') (hia : ia ≠ 347) (hiaF : F0.k ia = none) (hL : env.locals ≠ ia) :
    ∀ (k i : Nat) (F : FF) (o : Obj) (mm : Loc) (H : Hp) (s : Shared), (xs.drop i).length = k → ItAt Hs v xs i o → F.k ia = some o → FrIn env F mm → (∀ z, upL mm x z = upL m x z) → Base env (F0.put ia o) F → St prog w F H s →
      compL (fun H' => sameSrc Hs H' v) eltP testP acc fin (xs.drop i) H →
      codeAny (model prog w) A (.compLoop e d (.ref ia) (.ref acc) env) (fun r s' => r = .ok .next ∧ CompOut prog w env F0 m x fin ia s') s := by
  have T' : ∀ {F : FF} {o : Obj}, Base env (F0.put ia o) F → Stat fs w F := fun B => T.mono (fun a q e => B.ext a q (by rw [FF.put_ne (by rintro rfl; rw [hiaF] at e; cases e)]; exact e)) B.os
  intro k
  induction k with
  | zero =>
    intro i F o mm H s hlen It hF FI hov B S h
    have hnil : xs.drop i = [] := List.length_eq_zero_iff.mp hlen
    rw [hnil] at h
    obtain ⟨hsrc, hfin⟩ := h
    refine codeAny_of_tree ?_
    rw [hun]
    show wpAny _ _ (if (Code.compLoop e d (.ref ia) (.ref acc) env).isFrame then (compTurn e d (.ref ia) (.ref acc) env).onRaise (leaving env) else (compTurn e d (.ref ia) (.ref acc) env).onRaise (fun x => do noteFrame x env; theTreesLotGoes x)) _ _ s
    rw [hfr, if_neg (by decide), ht]
    refine wpAny_noted (wpAny_mono (E := fun _ _ => False) ?_ (fun _ _ z => z) fun _ _ z => z.elim)
    refine wpAny_bind (wpAny_standAt (wpAny_bind (wpAny_mono (tx_pyNext R It hF hia hsrc S) (fun r s' z => ?_) fun _ _ z => z)))
    have hn : xs[i]? = none := by
      have : xs.length ≤ i := by simpa using hnil
      exact List.getElem?_eq_none this
    cases r with
    | some u => obtain ⟨q, _⟩ := z; rw [hn] at q; cases q
    | none =>
      obtain ⟨vs, hvs⟩ := It.fields
      refine wpAny_pure ⟨rfl, F.cut ia, mm, H, FI.cut hF hvs, hov, ⟨fun a q e => ?_, B.os, B.sa, ?_⟩, z.2, hfin⟩
      · have hne : a ≠ ia := by rintro rfl; rw [hiaF] at e; cases e
        rw [FF.cut_ne hne]
        exact B.ext a q (by rw [FF.put_ne hne]; exact e)
      · have := B.off; rw [FF.put_ne hL] at this; exact this
  | succ k ih =>
    intro i F o mm H s hlen It hF FI hov B S h
    have hlt : i < xs.length := by simp at hlen; omega
    rw [List.drop_eq_getElem_cons hlt] at h
    obtain ⟨hsrc, h⟩ := h
    refine codeAny_of_tree ?_
    rw [hun]
    show wpAny _ _ (if (Code.compLoop e d (.ref ia) (.ref acc) env).isFrame then (compTurn e d (.ref ia) (.ref acc) env).onRaise (leaving env) else (compTurn e d (.ref ia) (.ref acc) env).onRaise (fun x => do noteFrame x env; theTreesLotGoes x)) _ _ s
    rw [hfr, if_neg (by decide), ht]
    refine wpAny_noted (wpAny_mono (E := fun _ _ => False) ?_ (fun _ _ z => z) fun _ _ z => z.elim)
    refine wpAny_bind (wpAny_standAt (wpAny_bind (wpAny_mono (tx_pyNext R It hF hia hsrc S) (fun r s' z => ?_) fun _ _ z => z)))
    cases r with
    | none => obtain ⟨q, _⟩ := z; rw [List.getElem?_eq_getElem hlt] at q; cases q
    | some u =>
      obtain ⟨q, o', It', S1⟩ := z
      have hu : xs[i] = ab u := by rw [List.getElem?_eq_getElem hlt] at q; exact Option.some.inj q
      obtain ⟨vs, hvs⟩ := It.fields
      have FI1 := FI.put hF hvs o'
      have B1 := B.put hL o'
      rw [FF.put_put] at B1
      refine wpAny_bind (wpAny_pure (wpAny_bind (wpAny_assign_Name (tx_store FI1 B1 S1 (.inl hk) fun F2 s2 FI2 B2 S2 => ?_))))
      rw [hov] at FI2
      rw [hu] at h
      refine wpAny_bind (wpAny_mono (hIfs F2 (ab u) _ H FI2 (T' B2) h s2 S2) (fun ok s3 z3 => ?_) fun _ _ z => z)
      obtain ⟨H3, S3, h3⟩ := z3
      have hF2 : F2.k ia = some o' := B2.ext ia o' (FF.put_self ..)
      have hdl : (xs.drop (i + 1)).length = k := by simp at hlen ⊢; omega
      have hov2 : ∀ z, upL (upL m x (ab u)) x z = upL m x z := upL_over (fun _ => rfl)
      cases ok with
      | false =>
        rw [if_neg (by decide)] at h3 ⊢
        exact wpAny_pure (And.intro hq (ih (i + 1) F2 o' _ H3 s3 hdl It' hF2 FI2 hov2 B2 S3 h3))
      | true =>
        rw [if_pos rfl] at h3 ⊢
        refine wpAny_bind (wpAny_bind (wpAny_mono (hElt F2 (ab u) _ H3 FI2 (T' B2) h3 s3 S3) (fun y s4 z4 => ?_) fun _ _ z => z))
        obtain ⟨H4, S4, h4⟩ := z4
        split at h4
        · rename_i ys hys
          obtain ⟨hz, h4⟩ := h4
          refine wpAny_bind (wpAny_mono (tx_append (Q := fun v H' => v = .none ∧ H' = upd H4 acc (.list (ys ++ [ab y]))) hys hz ⟨rfl, rfl⟩ s4 S4) (fun _ s5 z5 => ?_) fun _ _ z => z)
          obtain ⟨H5, S5, _, rfl⟩ := z5
          exact wpAny_pure (wpAny_pure (And.intro hq (ih (i + 1) F2 o' _ _ s5 hdl It' hF2 FI2 hov2 B2 S5 h4)))
        · exact h4.elim
end
end Csp

namespace Csp
open PySem PySem.W PySem.Calls PyProof.Rows PySem.SeqAt Builtin Builtin.ObjectAttr

section
variable {prog : Program} {w : World} {fs : List Env} {A : Around} {F F0 : FF} {H : Hp} {s : Shared} {n : Nat} {env : Env} {m : Loc}

theorem FrIn.anti (I : FrIn env F m) {m' : Loc} (h : ∀ x v, m' x = some v → m x = some v) : FrIn env F m' := by
  obtain ⟨o, es, ep, h1, h2, h3, h4⟩ := I.ns
  exact ⟨I.kind, I.glob, I.blt, ⟨o, es, ep, h1, h2, h3, fun x v hk hm => h4 x v hk (h x v hm)⟩, fun x v hk hm => I.cell x v hk (h x v hm), I.holds, I.apart, I.off, I.fcls⟩

/-- an iterator's own iterator -/
theorem tx_selfIter {Hs : Hp} {v : AV} {xs : List AV} {i : Nat} {ia : Addr} {o : Obj} (I : ItAt Hs v xs i o) (ho : s.heap.get? ia = some o) {Q : Value → Shared → Prop} {E : Value → Shared → Prop} (h : Q (.ref ia) s) :
    wpAny (model prog w) A (pyIter (.ref ia)) Q E s := by
  cases I with
  | list _ l => exact wpAny_pyIter_listiter ⟨o, ho, l.cls, l.data⟩ h
  | dom _ l => exact wpAny_pyIter_listiter ⟨o, ho, l.cls, l.data⟩ h
  | dict _ hc hd => exact wpAny_pyIter_keyiter ⟨o, ho, hc, hd⟩ h
  | range _ e => subst e; exact wpAny_pyIter_rangeiter ho h
  | vals _ _ hc hd => exact wpAny_pyIter_valiter ⟨o, ho, hc, hd⟩ h

/-- an iterator over nothing that changes: the start of a comprehension's clause -/
theorem comp_start {e : Expr} {d : Nat} {ia acc : Addr} {g : Comprehension} {Hs : Hp} {v : AV} {xs : List AV} {i : Nat} {o : Obj} {R : Result → Shared → Prop} (hg : (clausesOf e)[d]? = some g) (ha : g.is_async = 0) (It : ItAt Hs v xs i o) (ho : s.heap.get? ia = some o)
    (hfr : (Code.compStart e d (.ref ia) (.ref acc) env).isFrame = false) (hq : (Code.compLoop e d (.ref ia) (.ref acc) env).quiet = true) (hun : ∀ A : Around, A.under (Code.compStart e d (.ref ia) (.ref acc) env) = A)
    (hden : denote table (Code.compStart e d (.ref ia) (.ref acc) env) = (compStart e d (.ref ia) (.ref acc) env).onRaise (fun x => do noteFrame x env; standAt theWindowsPlace))
    (h : codeAny (model prog w) A (.compLoop e d (.ref ia) (.ref acc) env) R s) : codeAny (model prog w) A (.compStart e d (.ref ia) (.ref acc) env) R s := by
  refine codeAny_of_tree ?_
  rw [hun]
  show wpAny _ _ (denote table (Code.compStart e d (.ref ia) (.ref acc) env)) _ _ s
  rw [hden]
  refine wpAny_notedAt (wpAny_mono (E := fun _ _ => False) ?_ (fun _ _ z => z) fun _ _ z => z.elim)
  unfold compStart
  rw [hg]
  simp only [Option.elim, ha, bne_self_eq_false, Bool.false_eq_true, if_false]
  refine wpAny_bind (wpAny_askSetting (wpAny_ite ?_))
  split
  · exact wpAny_pure (And.intro hq h)
  · refine wpAny_bind (wpAny_rule (wpAny_bind (wpAny_standAt (wpAny_bind (tx_selfIter It ho (wpAny_pure (And.intro hq h)))))))

theorem mark_none (A : Around) : A.mark none = A := by
  obtain ⟨a, b, c, d, e⟩ := A
  cases a <;> rfl
/-- the first of two clauses -/
theorem comp_first {e : Expr} {elt iter it2 : Expr} {ifs : List Expr} {x y : String} {px py : Pos} {ia acc : Addr} {scope : Scope} {pos : Pos} (T : Stat fs w F0) (R : Room fs A n)
    (he : e = .ListComp elt [⟨.Name (Str.ofString x) px, iter, [], 0⟩, ⟨.Name (Str.ofString y) py, it2, ifs, 0⟩] scope pos)
    (hs2 : ∀ v, foldedSetIterable it2 env v = pure v)
    (hfr : ∀ d ia, (Code.compLoop e d (.ref ia) (.ref acc) env).isFrame = false) (hq : ∀ d ia, (Code.compLoop e d (.ref ia) (.ref acc) env).quiet = true) (hun : ∀ (A : Around) d ia, A.under (Code.compLoop e d (.ref ia) (.ref acc) env) = A)
    (hfr' : ∀ d ia, (Code.compStart e d (.ref ia) (.ref acc) env).isFrame = false) (hun' : ∀ (A : Around) d ia, A.under (Code.compStart e d (.ref ia) (.ref acc) env) = A)
    (hden : ∀ d ia, denote table (Code.compStart e d (.ref ia) (.ref acc) env) = (compStart e d (.ref ia) (.ref acc) env).onRaise (fun x => do noteFrame x env; standAt theWindowsPlace))
    (hk : env.kindOf (Str.ofString x) = some .local) (hk2 : env.kindOf (Str.ofString y) = some .local) (hxy : y ≠ x) (hmy : m y = none)
    {Hs : Hp} {v : AV} {xs : List AV} {it2P : AV → PT AV} {eltP : AV → AV → PT AV} {testP : AV → AV → PT Bool} {fin : Hp → Prop}
    (hIt2 : ∀ F' a Q H', FrIn env F' (upL m x a) → Stat fs w F' → it2P a Q H' → TX prog w A F' (eval it2 env) (fun u H => Q (ab u) H) H')
    (hElt : ∀ F' a b Q H', FrIn env F' (upL (upL m x a) y b) → Stat fs w F' → eltP a b Q H' → TX prog w A F' (eval elt env) (fun u H => Q (ab u) H) H')
    (hIfs : ∀ F' a b Q H', FrIn env F' (upL (upL m x a) y b) → Stat fs w F' → testP a b Q H' → TX prog w A F' (tests ifs env) (fun b H => Q b H) H') (hia : ia ≠ 347) (hiaF : F0.k ia = none) (hL : env.locals ≠ ia) :
    ∀ (k i : Nat) (F : FF) (o : Obj) (mm : Loc) (H : Hp) (s : Shared), (xs.drop i).length = k → ItAt Hs v xs i o → F.k ia = some o → FrIn env F mm → (∀ q, q ≠ x → q ≠ y → mm q = m q) → Base env (F0.put ia o) F → St prog w F H s →
      compL2 (fun _ H' => sameSrc Hs H' v) it2P testP eltP acc fin (xs.drop i) H →
      codeAny (model prog w) A (.compLoop e 0 (.ref ia) (.ref acc) env) (fun r s' => r = .ok .next ∧ ∃ F' mm' H', FrIn env F' mm' ∧ Base env F0 F' ∧ St prog w F' H' s' ∧ fin H') s := by
  have T' : ∀ {F : FF} {o : Obj}, Base env (F0.put ia o) F → Stat fs w F := fun B => T.mono (fun a q e => B.ext a q (by rw [FF.put_ne (by rintro rfl; rw [hiaF] at e; cases e)]; exact e)) B.os
  intro k
  induction k with
  | zero =>
    intro i F o mm H s hlen It hF FI hov B S h
    have hnil : xs.drop i = [] := List.length_eq_zero_iff.mp hlen
    rw [hnil] at h
    obtain ⟨hsrc, hfin⟩ := h
    refine codeAny_of_tree ?_
    rw [hun]
    show wpAny _ _ (if (Code.compLoop e 0 (.ref ia) (.ref acc) env).isFrame then (compTurn e 0 (.ref ia) (.ref acc) env).onRaise (leaving env) else (compTurn e 0 (.ref ia) (.ref acc) env).onRaise (fun x => do noteFrame x env; theTreesLotGoes x)) _ _ s
    rw [hfr, if_neg (by decide)]
    refine wpAny_noted (wpAny_mono (E := fun _ _ => False) ?_ (fun _ _ z => z) fun _ _ z => z.elim)
    subst he
    refine wpAny_bind (wpAny_standAt (wpAny_bind (wpAny_mono (tx_pyNext R It hF hia hsrc S) (fun r s' z => ?_) fun _ _ z => z)))
    have hn : xs[i]? = none := by
      have : xs.length ≤ i := by simpa using hnil
      exact List.getElem?_eq_none this
    cases r with
    | some u => obtain ⟨q, _⟩ := z; rw [hn] at q; cases q
    | none =>
      obtain ⟨vs, hvs⟩ := It.fields
      refine wpAny_pure ⟨rfl, F.cut ia, mm, H, FI.cut hF hvs, ⟨fun a q e => ?_, B.os, B.sa, ?_⟩, z.2, hfin⟩
      · have hne : a ≠ ia := by rintro rfl; rw [hiaF] at e; cases e
        rw [FF.cut_ne hne]
        exact B.ext a q (by rw [FF.put_ne hne]; exact e)
      · have := B.off; rw [FF.put_ne hL] at this; exact this
  | succ k ih =>
    intro i F o mm H s hlen It hF FI hov B S h
    have hlt : i < xs.length := by simp at hlen; omega
    rw [List.drop_eq_getElem_cons hlt] at h
    obtain ⟨hsrc, h⟩ := h
    refine codeAny_of_tree ?_
    rw [hun]
    show wpAny _ _ (if (Code.compLoop e 0 (.ref ia) (.ref acc) env).isFrame then (compTurn e 0 (.ref ia) (.ref acc) env).onRaise (leaving env) else (compTurn e 0 (.ref ia) (.ref acc) env).onRaise (fun x => do noteFrame x env; theTreesLotGoes x)) _ _ s
    rw [hfr, if_neg (by decide)]
    refine wpAny_noted (wpAny_mono (E := fun _ _ => False) ?_ (fun _ _ z => z) fun _ _ z => z.elim)
    have hq0 := hq 0 ia
    subst he
    refine wpAny_bind (wpAny_standAt (wpAny_bind (wpAny_mono (tx_pyNext R It hF hia hsrc S) (fun r s' z => ?_) fun _ _ z => z)))
    cases r with
    | none => obtain ⟨q, _⟩ := z; rw [List.getElem?_eq_getElem hlt] at q; cases q
    | some u =>
      obtain ⟨q, o', It', S1⟩ := z
      have hu : xs[i] = ab u := by rw [List.getElem?_eq_getElem hlt] at q; exact Option.some.inj q
      obtain ⟨vs, hvs⟩ := It.fields
      have FI1 := FI.put hF hvs o'
      have B1 := B.put hL o'
      rw [FF.put_put] at B1
      refine wpAny_bind (wpAny_pure (wpAny_bind (wpAny_assign_Name (tx_store FI1 B1 S1 (.inl hk) fun F2 s2 FI2 B2 S2 => ?_))))
      have FI2' : FrIn env F2 (upL m x (ab u)) := FI2.anti fun q v hv => by
        unfold upL at hv ⊢
        by_cases e1 : q = x
        · simpa [e1] using hv
        · simp only [e1, if_false] at hv ⊢
          by_cases e2 : q = y
          · subst e2; rw [hmy] at hv; cases hv
          · rw [hov q e1 e2]; exact hv
      rw [hu] at h
      refine wpAny_bind (wpAny_pure ?_)
      dsimp only
      rw [if_pos rfl]
      refine wpAny_bind (wpAny_mono (hIt2 F2 (ab u) _ H FI2' (T' B2) h s2 S2) (fun yv s3 z3 => ?_) fun _ _ z => z)
      obtain ⟨H3, S3, h3⟩ := z3
      split at h3
      · rename_i ys hys
        refine wpAny_bind (wpAny_standAt ?_)
        refine wpAny_bind (wpAny_of_eq (hs2 yv) ?_)
        refine wpAny_bind (wpAny_holding (tx_pyIter (T' B2) R hys S3 fun o2 ho2 It2 => ?_))
        have S4 := S3.newKnown (o := o2) (Nat.le_refl _) (fun _ _ e => Heap.get?_push_of_some _ e) (Heap.get?_push_size _ ho2) s3.toks
        have hfresh : F2.k s3.heap.objs.size = none := S3.freshF
        have hfresh0 : (F0.put ia o').k s3.heap.objs.size = none := by
          cases e : (F0.put ia o').k s3.heap.objs.size with
          | none => rfl
          | some q => rw [B2.ext _ _ e] at hfresh; cases hfresh
        have extp : ∀ a q, F2.k a = some q → (F2.put s3.heap.objs.size o2).k a = some q := fun a q e => by
          rw [FF.put_ne (by rintro rfl; rw [hfresh] at e; cases e)]; exact e
        have hLn : env.locals ≠ s3.heap.objs.size := by
          obtain ⟨oL, _, _, e, _⟩ := FI2.ns
          exact Nat.ne_of_lt (S3.ltF e)
        refine wpAny_bind (wpAny_runOwn ?_)
        rw [mark_none]
        refine codeAny_mono (comp_start (d := 1) (g := ⟨.Name (Str.ofString y) py, it2, ifs, 0⟩) rfl rfl It2 (Heap.get?_push_size _ ho2) (hfr' 1 _) (hq 1 _) (fun A => hun' A 1 _) (hden 1 _)
          (comp_last (m := upL m x (ab u)) (F0 := F0.put ia o') (d := 1) (elt := elt) (iter := it2) (ifs := ifs) (x := y) (px := py) (fin := fun H' => compL2 (fun _ H' => sameSrc Hs H' v) it2P testP eltP acc fin (xs.drop (i + 1)) H')
            (T.mono (fun a q e => by rw [FF.put_ne (by rintro rfl; rw [hiaF] at e; cases e)]; exact e) rfl) R (by rfl) (hfr 1 _) (hq 1 _) (fun A => hun A 1 _) hk2 (fun F' b Q H' => hElt F' (ab u) b Q H') (fun F' b Q H' => hIfs F' (ab u) b Q H')
            (Nat.ne_of_gt S3.size) hfresh0 hLn _ 0 (F2.put s3.heap.objs.size o2) o2 (upL m x (ab u)) H3 _ rfl It2 (FF.put_self ..) (FI2'.mono extp rfl) (fun _ => rfl) (B2.put hLn o2) S4 h3)) fun r s5 z5 => ?_
        obtain ⟨rfl, F5, mm5, H5, FI5, hov5, B5, S5, h5⟩ := z5
        refine wpAny_pure (And.intro hq0 (ih (i + 1) F5 o' mm5 H5 s5 (by simp at hlen ⊢; omega) It' (B5.ext ia o' (FF.put_self ..)) FI5 (fun q h1 h2 => ?_) B5 S5 h5))
        have := congrFun (hov5 .none) q
        unfold upL at this
        simpa [h1, h2] using this
      · exact h3.elim
end
end Csp

namespace Csp
open PySem PySem.W PySem.Calls PyProof.Rows PySem.SeqAt Builtin Builtin.ObjectAttr

/-- the closure of a comprehension -/
def clos (cells : List (Str × Addr)) : List (Str × NameKind) → List (Str × Addr) → List (Str × Addr)
  | [], acc => acc
  | (n, k) :: r, acc => if k == .free then (match cells.lookup n with
    | some c => clos cells r ((n, c) :: acc)
    | none => clos cells r acc) else clos cells r acc

theorem clos_eq {env : Env} : ∀ (names : List (Str × NameKind)) (acc : List (Str × Addr)), (∀ n, (n, NameKind.free) ∈ names → (env.cells.lookup n).isSome = true) →
    (forIn names acc (fun (x : Str × NameKind) (r : List (Str × Addr)) => match x with
      | (name, kind) => if (kind == .free) = true then do let c ← cellOf env name; pure (ForInStep.yield ((name, c) :: r)) else pure (ForInStep.yield r)) : Sem (List (Str × Addr))) = pure (clos env.cells names acc)
  | [], acc, _ => rfl
  | (n, k) :: r, acc, h => by
    rw [List.forIn_cons]
    dsimp only
    unfold clos
    have hr := fun acc => clos_eq (env := env) r acc fun n hn => h n (List.mem_cons_of_mem _ hn)
    by_cases hk : (k == NameKind.free) = true
    · rw [if_pos hk, if_pos hk]
      have hk' : k = .free := by simpa using hk
      obtain ⟨c, hc⟩ := Option.isSome_iff_exists.mp (h n (by rw [hk']; exact List.mem_cons_self))
      unfold cellOf
      rw [hc]
      exact hr _
    · rw [if_neg hk, if_neg hk]
      exact hr _
theorem closureFor_eq {scope : Scope} {env : Env} (h : ∀ n, (n, NameKind.free) ∈ scope.names → (env.cells.lookup n).isSome = true) : closureFor scope env = pure (clos env.cells scope.names []) := by
  have := clos_eq (env := env) scope.names [] h
  unfold closureFor
  show (forIn scope.names [] _ >>= _) = _
  rw [show (forIn scope.names ([] : List (Str × Addr)) _ : Sem (List (Str × Addr))) = _ from this]
  rfl
theorem clos_mem {cells : List (Str × Addr)} {n : Str} {c : Addr} : ∀ (names : List (Str × NameKind)) (acc : List (Str × Addr)), (n, c) ∈ clos cells names acc → (n, c) ∈ acc ∨ (cells.lookup n = some c ∧ (n, NameKind.free) ∈ names)
  | [], acc, h => .inl h
  | (n', k) :: r, acc, h => by
    unfold clos at h
    split at h
    · rename_i hk
      have hk' : k = .free := by simpa using hk
      split at h
      · rename_i c' hc
        rcases clos_mem r _ h with h | h
        · rcases List.mem_cons.mp h with e | h
          · cases e; exact .inr ⟨hc, by rw [hk']; exact List.mem_cons_self⟩
          · exact .inl h
        · exact .inr ⟨h.1, List.mem_cons_of_mem _ h.2⟩
      · rcases clos_mem r _ h with h | h
        · exact .inl h
        · exact .inr ⟨h.1, List.mem_cons_of_mem _ h.2⟩
    · rcases clos_mem r _ h with h | h
      · exact .inl h
      · exact .inr ⟨h.1, List.mem_cons_of_mem _ h.2⟩
theorem clos_acc {cells : List (Str × Addr)} {p : Str × Addr} : ∀ (names : List (Str × NameKind)) (acc : List (Str × Addr)), p ∈ acc → p ∈ clos cells names acc
  | [], acc, h => h
  | (n', k) :: r, acc, h => by
    unfold clos
    split
    · split
      · exact clos_acc r _ (List.mem_cons_of_mem _ h)
      · exact clos_acc r _ h
    · exact clos_acc r _ h
theorem clos_has {cells : List (Str × Addr)} {n : Str} {c : Addr} (hc : cells.lookup n = some c) : ∀ (names : List (Str × NameKind)) (acc : List (Str × Addr)), (n, NameKind.free) ∈ names → (n, c) ∈ clos cells names acc
  | (n', k) :: r, acc, h => by
    unfold clos
    rcases List.mem_cons.mp h with e | h
    · cases e
      rw [if_pos (by decide), hc]
      exact clos_acc r _ List.mem_cons_self
    · split
      · split
        · exact clos_has hc r _ h
        · exact clos_has hc r _ h
      · exact clos_has hc r _ h
theorem clos_fst {cells : List (Str × Addr)} : ∀ (names : List (Str × NameKind)) (acc : List (Str × Addr)), (acc.Pairwise fun x y => x.1 ≠ y.1) → (names.map (·.1)).Nodup → (∀ p ∈ acc, p.1 ∉ names.map (·.1)) → (clos cells names acc).Pairwise fun x y => x.1 ≠ y.1
  | [], acc, h, _, _ => h
  | (n', k) :: r, acc, h, hn, hd => by
    unfold clos
    rw [List.map_cons, List.nodup_cons] at hn
    have hd' : ∀ p ∈ acc, p.1 ∉ r.map (·.1) := fun p hp hm => hd p hp (by rw [List.map_cons]; exact List.mem_cons_of_mem _ hm)
    split
    · split
      · rename_i c hc
        refine clos_fst r _ (List.pairwise_cons.mpr ⟨fun p hp e => hd p hp (by rw [List.map_cons, ← e]; exact List.mem_cons_self), h⟩) hn.2 fun p hp => ?_
        rcases List.mem_cons.mp hp with e | hp
        · rw [e]; exact hn.1
        · exact hd' p hp
      · exact clos_fst r _ h hn.2 hd'
    · exact clos_fst r _ h hn.2 hd'
theorem lookup_of_mem {β : Type} {l : List (Str × β)} (h : l.Pairwise fun x y => x.1 ≠ y.1) {n : Str} {c : β} (hm : (n, c) ∈ l) : l.lookup n = some c := by
  induction l with
  | nil => cases hm
  | cons p r ih =>
    obtain ⟨k, v⟩ := p
    rw [List.pairwise_cons] at h
    rw [List.lookup_cons]
    rcases List.mem_cons.mp hm with e | hm
    · cases e; rw [beq_self_eq_true]
    · rw [beq_eq_false_iff_ne.mpr (fun e => h.1 _ hm e.symm)]
      exact ih h.2 hm

/-- the kinds of a comprehension's names -/
def kc (scope : Scope) (q : Str) : Option NameKind := match scope.names.lookup q with
  | some .free => some .cell
  | r => r
def scOk (k : Str → Option NameKind) (scope : Scope) (xs : List String) : Bool :=
  scope.kind == .function && decide ((scope.names.map (·.1)).Nodup) && (scope.names.all fun p => match p.2 with
    | .local => (".0" :: xs).any fun x => p.1 == Str.ofString x
    | .free => k p.1 == some .cell
    | .cell => false
    | _ => true) && xs.all fun x => scope.names.lookup (Str.ofString x) == some .local

structure ScOk (k : Str → Option NameKind) (scope : Scope) (xs : List String) : Prop where
  kind : scope.kind = .function
  nodup : (scope.names.map (·.1)).Nodup
  loc : ∀ n, (n, NameKind.local) ∈ scope.names → ∃ x ∈ ".0" :: xs, n = Str.ofString x
  free : ∀ n, (n, NameKind.free) ∈ scope.names → k n = some .cell
  noCell : ∀ n, (n, NameKind.cell) ∉ scope.names
  has : ∀ x ∈ xs, scope.names.lookup (Str.ofString x) = some .local
theorem scOk_of {k : Str → Option NameKind} {scope : Scope} {xs : List String} (h : scOk k scope xs = true) : ScOk k scope xs := by
  unfold scOk at h
  simp only [Bool.and_eq_true, beq_iff_eq, decide_eq_true_eq] at h
  obtain ⟨⟨⟨h1, h2⟩, h3⟩, h4⟩ := h
  have h3 := List.all_eq_true.mp h3
  refine ⟨h1, h2, fun n hn => ?_, fun n hn => ?_, fun n hn => ?_, fun x hx => beq_iff_eq.mp (List.all_eq_true.mp h4 x hx)⟩
  · have := h3 _ hn
    obtain ⟨x, hx, e⟩ := List.any_eq_true.mp this
    exact ⟨x, hx, beq_iff_eq.mp e⟩
  · have := h3 _ hn
    exact beq_iff_eq.mp this
  · have := h3 _ hn
    cases this

theorem lookup_relabel {env : Env} (hk : env.scope.kind = .function) : ∀ {names : List (Str × NameKind)} (h : ∀ n, (n, NameKind.free) ∈ names → env.kindOf n = some .cell) (q : Str),
    (names.map fun (n, k) => if (k == NameKind.free && env.scope.kind == .function && env.kindOf n == some .cell) then (n, NameKind.cell) else (n, k)).lookup q = (match names.lookup q with
      | some .free => some .cell
      | r => r)
  | [], _, _ => rfl
  | (n, k) :: r, h, q => by
    have ih := lookup_relabel hk (names := r) (fun n hn => h n (List.mem_cons_of_mem _ hn)) q
    rw [List.map_cons]
    show List.lookup q ((if (k == NameKind.free && env.scope.kind == .function && env.kindOf n == some .cell) = true then (n, NameKind.cell) else (n, k)) :: _) = _
    by_cases hf : k = .free
    · subst hf
      rw [if_pos (by rw [hk, h n List.mem_cons_self]; rfl), List.lookup_cons, List.lookup_cons]
      cases hq : q == n with
      | true => rfl
      | false => exact ih
    · rw [if_neg (by simp [hf]), List.lookup_cons, List.lookup_cons]
      cases hq : q == n with
      | true => cases k <;> first | rfl | exact absurd rfl hf
      | false => exact ih

/-- what the comprehension knows of the names around it -/
def mC (scope : Scope) (m : Loc) : Loc := fun q => if kc scope (Str.ofString q) = some .local then none else m q

section
variable {prog : Program} {w : World} {fs : List Env} {A : Around} {F F0 : FF} {H : Hp} {s : Shared} {n : Nat} {env : Env} {m : Loc}

theorem comp_kind (I : FrIn env F m) {scope : Scope} {xs : List String} (K : ScOk env.kindOf scope xs) {cl : List (Str × Addr)} {C : Addr} (q : Str) : (compEnvC scope cl C env).kindOf q = kc scope q :=
  lookup_relabel I.kind K.free q

theorem comp_env (I : FrIn env F m) (S : St prog w F H s) {scope : Scope} {xs : List String} (K : ScOk env.kindOf scope xs) {Q : Env → Shared → Prop} {E : Value → Shared → Prop}
    (h : ∀ cenv s' oC es ep, cenv.locals = s.heap.objs.size → { cenv with scope := relabel scope env } = compEnvC scope (clos env.cells scope.names []) s.heap.objs.size env → oC.data = .dict es ep →
      St prog w (F.put s.heap.objs.size oC) H s' → FrIn (compEnvC scope (clos env.cells scope.names []) s.heap.objs.size env) (F.put s.heap.objs.size oC) (mC scope m) → Base (compEnvC scope (clos env.cells scope.names []) s.heap.objs.size env) F (F.put s.heap.objs.size oC) →
      Q cenv s') : wpAny (model prog w) A (newFunctionEnv scope env.globals (clos env.cells scope.names []) [] env.qual none .none (some env)) Q E s := by
  refine wpAny_newFunctionEnv (fun x hx e => ?_) (fun x hx => by cases hx) (fun h' hns hsb => ?_) K.kind
  · obtain ⟨nm, k⟩ := x
    dsimp only at e
    subst e
    exact K.noCell _ hx
  · obtain ⟨oC, es, ep, g1, g2, g3, g4⟩ := hns
    have S' := S.newKnownL (a := s.heap.objs.size) (h' := h') (o := { cls := .type "frame", dict := some F.os.2, data := .dict es ep }) (Nat.le_refl _) (fun b o e => hsb.extBut b o (Nat.ne_of_lt (Heap.lt_size e)) (Heap.get?_push_of_some _ e)) g1 (.inr ⟨rfl, rfl, g2⟩) (s.toks + 0)
    clear g1
    have g2 : ({ cls := .type "frame", dict := some F.os.2, data := .dict es ep } : Obj).data = .dict es ep := rfl
    have gc : ({ cls := .type "frame", dict := some F.os.2, data := .dict es ep } : Obj).cls = .type "frame" ∧ ({ cls := .type "frame", dict := some F.os.2, data := .dict es ep } : Obj).dict = some F.os.2 := ⟨rfl, rfl⟩
    generalize ({ cls := .type "frame", dict := some F.os.2, data := .dict es ep } : Obj) = oC at S' g2 gc
    have fz : F.k s.heap.objs.size = none := S.freshF
    have old : ∀ a o, F.k a = some o → (F.put s.heap.objs.size oC).k a = some o := fun a o e => by rw [FF.put_ne (by rintro rfl; rw [fz] at e; cases e)]; exact e
    have ck := fun q => comp_kind (cl := clos env.cells scope.names []) (C := s.heap.objs.size) I K q
    have nocell : ∀ q, kc scope q ≠ some .free := fun q e => by
      unfold kc at e
      split at e
      · cases e
      · rename_i r hr; exact hr e
    have cellOf : ∀ q, kc scope q = some .cell → (q, NameKind.free) ∈ scope.names := fun q e => by
      unfold kc at e
      split at e
      · rename_i hr; exact mem_lookup hr
      · exact absurd (mem_lookup e) (K.noCell q)
    have apf : (clos env.cells scope.names []).Pairwise fun x y => x.1 ≠ y.1 := clos_fst scope.names [] List.Pairwise.nil K.nodup (fun p hp => by cases hp)
    have cm : ∀ q c, (q, c) ∈ clos env.cells scope.names [] → env.cells.lookup q = some c := fun q c hq => by
      rcases clos_mem scope.names [] hq with h | h
      · cases h
      · exact h.1
    have held : ∀ q c, (q, c) ∈ clos env.cells scope.names [] → ∃ o u, F.k c = some o ∧ o.data = .cell u := fun q c hq => by
      rcases clos_mem scope.names [] hq with h | h
      · cases h
      · obtain ⟨c', o, u, a1, a2, a3⟩ := I.holds q (K.free q h.2)
        rw [h.1] at a1; cases a1
        exact ⟨o, u, a2, a3⟩
    refine h _ _ oC es ep rfl rfl g2 S' ⟨K.kind, I.glob, I.blt, ⟨oC, es, ep, FF.put_self .., g2, g3, fun x v hk hm => ?_⟩, fun x v hk hm => ?_, fun x hk => ?_, ?_, fun x c hc => ?_, fun o2 e2 => by rw [show (compEnvC scope (clos env.cells scope.names []) s.heap.objs.size env).locals = s.heap.objs.size from rfl, FF.put_self] at e2; cases e2; exact gc⟩ ⟨old, rfl, rfl, fz⟩
    · rw [ck] at hk
      unfold mC at hm
      rw [if_pos hk] at hm; cases hm
    · rw [ck] at hk
      have hk' : kc scope (Str.ofString x) = some .cell := hk.resolve_right (nocell _)
      unfold mC at hm
      rw [if_neg (by rw [hk']; decide)] at hm
      have hf := cellOf _ hk'
      obtain ⟨c, o, u, a1, a2, a3, a4⟩ := I.cell x v (.inl (K.free _ hf)) hm
      exact ⟨c, o, u, lookup_of_mem apf (clos_has a1 scope.names [] hf), old _ _ a2, a3, a4⟩
    · rw [ck] at hk
      have hf := cellOf _ hk
      obtain ⟨c, o, u, a1, a2, a3⟩ := I.holds x (K.free _ hf)
      exact ⟨c, o, u, lookup_of_mem apf (clos_has a1 scope.names [] hf), old _ _ a2, a3⟩
    · refine apf.imp_of_mem fun {x y} hx hy hne e => hne ?_
      obtain ⟨x1, x2⟩ := x
      obtain ⟨y1, y2⟩ := y
      dsimp only at e
      subst e
      exact name_of_addr I.apart (mem_of_lookup (cm _ _ hx)) (mem_of_lookup (cm _ _ hy))
    · obtain ⟨o, u, a1, a2⟩ := held x c hc
      exact Nat.ne_of_lt (S.ltF a1)
end
end Csp

namespace Csp
open PySem PySem.W PySem.Calls PyProof.Rows PySem.SeqAt Builtin Builtin.ObjectAttr

section
variable {prog : Program} {w : World} {fs : List Env} {A : Around} {F F0 : FF} {H : Hp} {s : Shared} {n : Nat} {env : Env} {m : Loc}

/-- the loops of a comprehension, from their start -/
def Loops (prog : Program) (w : World) (A : Around) (F : FF) (m : Loc) (e : Expr) (scope : Scope) (acc ia : Addr) (o : Obj) (H : Hp) (fin : Hp → Prop) : Prop :=
  ∀ (cenv : Env) (F1 : FF) (s : Shared), (∀ q, cenv.kindOf q = kc scope q) → F1.k ia = some o → FrIn cenv F1 (mC scope m) → Base cenv (F.put ia o) F1 → St prog w F1 H s → cenv.locals ≠ ia → 
    codeAny (model prog w) A (.compStart e 0 (.ref ia) (.ref acc) cenv) (fun r s' => r = .ok .next ∧ ∃ F' mm H', FrIn cenv F' mm ∧ Base cenv F F' ∧ St prog w F' H' s' ∧ fin H') s

theorem comp_core {e : Expr} {scope : Scope} {pos : Pos} {first : Sem Value} {g : Comprehension} {gs : List Comprehension} {use : Option (Value → Sem Unit)} {xs0 : List String} {fin : Addr → Hp → Prop} {Post : Value → Shared → Prop} {E : Value → Shared → Prop}
    (hcl : clausesOf e = g :: gs) (hs : ∀ x, foldedSetIterable g.iter env x = pure x) (K : ScOk env.kindOf scope xs0) (I : FrIn env F m) (T : Stat fs w F) (R : Room fs A n) (S : St prog w F H s)
    (hFirst : TX prog w A F first (fun v H1 => ∃ xs, itemsOf H1 (ab v) = some xs ∧ ∀ acc ia o, Fresh H1 acc → H1 ia = none → F.k ia = none → ia ≠ 347 → ItAt H1 (ab v) xs 0 o → Loops prog w A F m e scope acc ia o (upd H1 acc (.list [])) (fin acc)) H)
    (hPost : ∀ (acc C : Addr) F' H' s' oC es ep, (∀ a o, F.k a = some o → F'.k a = some o) → F'.os = F.os → F'.sa = F.sa → F.k C = none → C ≠ 347 → C ≠ env.locals → F'.k C = some oC → oC.data = .dict es ep → (∃ mm, s'.heap.Ns C mm) → St prog w F' H' s' → fin acc H' →
      compPost (model prog w) A E use Post (.ref acc) C (.ok .next) s') :
    wpAny (model prog w) A (comprehension e scope env pos (newList []) false first use) Post E s := by
  have hcells : ∀ n, (n, NameKind.free) ∈ scope.names → (env.cells.lookup n).isSome = true := fun n hn => by
    obtain ⟨c, o, u, a1, _⟩ := I.holds n (K.free n hn)
    rw [a1]; rfl
  refine wpAny_comprehension_free hcl hs (closureFor_eq hcells) K.kind (fun x hx hl => ?_) (wpAny_mono (hFirst s S) (fun v s1 z => ?_) fun _ _ z => z.elim)
  · obtain ⟨nm, k⟩ := x
    dsimp only at hl
    subst hl
    exact lookup_of_mem (List.pairwise_map.mp K.nodup) hx
  · obtain ⟨H1, S1, xs, hxs, hl⟩ := z
    refine tx_pyIter T R hxs S1 fun o ho It => ?_
    have S2 := S1.newKnown (o := o) (Nat.le_refl _) (fun _ _ e => Heap.get?_push_of_some _ e) (Heap.get?_push_size _ ho) s1.toks
    have fia : F.k s1.heap.objs.size = none := S1.freshF
    have old : ∀ a q, F.k a = some q → (F.put s1.heap.objs.size o).k a = some q := fun a q e => by rw [FF.put_ne (by rintro rfl; rw [fia] at e; cases e)]; exact e
    have S3 := S2.alloc (o := { cls := .type "list", data := .seq ([] : List Value).toArray }) (x := .list []) ⟨#[], 0, rfl, rfl, Nat.zero_le _⟩ rfl rfl
    have hsz2 : (s1.heap.push o).objs.size = s1.heap.objs.size + 1 := Heap.size_push ..
    simp only [hsz2] at S3
    have hlocal : env.locals < s1.heap.objs.size := by
      obtain ⟨oL, _, _, e, _⟩ := I.ns
      exact S1.ltF e
    refine wpAny_newObj_type ?_
    simp only [hsz2]
    have hsz3 : ((s1.heap.push o).push { cls := .type "list", data := .seq ([] : List Value).toArray }).objs.size = s1.heap.objs.size + 2 := by rw [Heap.size_push, hsz2]
    refine comp_env (I.mono old rfl) S3 K fun cenv s4 oC es ep e1 e2 hd S4 FI4 B4 => ?_
    simp only [hsz3] at e1 e2 S4 FI4 B4
    rw [e2, e1]
    have n1 : s1.heap.objs.size ≠ s1.heap.objs.size + 2 := Nat.ne_of_lt (by omega)
    have h3 : 347 < s1.heap.objs.size := S1.size
    have fC : F.k (s1.heap.objs.size + 2) = none := by
      cases e : F.k (s1.heap.objs.size + 2) with
      | none => rfl
      | some q => exact absurd (S1.ltF e) (Nat.not_lt.mpr (Nat.le_add_right _ 2))
    have facc : H1 (s1.heap.objs.size + 1) = none := by
      cases e : H1 (s1.heap.objs.size + 1) with
      | none => rfl
      | some q => exact absurd (S1.lt e) (Nat.not_lt.mpr (Nat.le_add_right _ 1))
    refine codeAny_mono (hl (s1.heap.objs.size + 1) s1.heap.objs.size o ⟨facc, Nat.ne_of_gt (Nat.lt_of_lt_of_le h3 (Nat.le_add_right _ 1))⟩ S1.fresh0 fia (Nat.ne_of_gt h3) It (compEnvC scope (clos env.cells scope.names []) (s1.heap.objs.size + 2) env) _ s4 (fun q => comp_kind I K q)
      (by rw [FF.put_ne n1]; exact FF.put_self ..) FI4 B4 S4 (Ne.symm n1)) fun r s5 z5 => ?_
    obtain ⟨rfl, F', mm, H', FI', B', S', hfin⟩ := z5
    obtain ⟨mz, hmz, _⟩ := FI'.nsAt S'
    obtain ⟨oC', es', ep', q1, q2, _⟩ := FI'.ns
    exact hPost (s1.heap.objs.size + 1) (s1.heap.objs.size + 2) F' H' s5 oC' es' ep' B'.ext B'.os B'.sa fC (Nat.ne_of_gt (Nat.lt_of_lt_of_le h3 (Nat.le_add_right _ 2))) (Nat.ne_of_gt (Nat.lt_of_lt_of_le hlocal (Nat.le_add_right _ 2))) q1 q2 ⟨mz, hmz⟩ S' hfin

theorem noseq_dict {o : Obj} {es : Array DictEntry} {ep : Nat} (h : o.data = .dict es ep) : ∀ items n, o.data ≠ .seq items n := fun _ _ q => by rw [h] at q; cases q

/-- a comprehension's value -/
theorem tx_comp {e : Expr} {elt : Expr} {gens : List Comprehension} {scope : Scope} {pos : Pos} {g : Comprehension} {gs : List Comprehension} {xs0 : List String} {Q : AV → Hp → Prop}
    (he : e = .ListComp elt gens scope pos) (hg : gens = g :: gs) (ha : g.is_async = 0) (hs : ∀ x, foldedSetIterable g.iter env x = pure x) (K : ScOk env.kindOf scope xs0) (I : FrIn env F m) (T : Stat fs w F) (R : Room fs A n)
    (hFirst : TX prog w A F (eval g.iter env) (fun v H1 => ∃ xs, itemsOf H1 (ab v) = some xs ∧ ∀ acc ia o, Fresh H1 acc → H1 ia = none → F.k ia = none → ia ≠ 347 → ItAt H1 (ab v) xs 0 o → Loops prog w A F m e scope acc ia o (upd H1 acc (.list [])) (fun H' => Q (.ref acc) H')) H) :
    TX prog w A F (eval e env) (fun u H' => Q (ab u) H') H := by
  intro s S
  subst he hg
  rw [eval_ListComp]
  obtain ⟨gt, gi, gf, ga⟩ := g
  dsimp only at ha
  subst ha
  refine comp_core (g := ⟨gt, gi, gf, 0⟩) (gs := gs) rfl hs K I T R S hFirst fun acc C F' H' s' oC es ep hx ho hsa hC h3 hCL h1 h2 ⟨mm, hmm⟩ S' hfin => ⟨mm, hmm, fun h' hsb => ?_⟩
  refine ⟨H', (S'.forget h1 (noseq_dict h2) h3 hsb.extBut s'.toks).back S (fun a q e => ?_) ho hsa, hfin⟩
  rw [FF.cut_ne (by rintro rfl; rw [hC] at e; cases e)]
  exact hx a q e

theorem FrIn.cutC (I : FrIn env F m) {C : Addr} {o : Obj} {es : Array DictEntry} {ep : Nat} (hL : C ≠ env.locals) (h : F.k C = some o) (hd : o.data = .dict es ep) : FrIn env (F.cut C) m := by
  obtain ⟨oL, es', ep', h1, h2, h3, h4⟩ := I.ns
  refine ⟨I.kind, I.glob, I.blt, ⟨oL, es', ep', by rw [FF.cut_ne (Ne.symm hL)]; exact h1, h2, h3, h4⟩, fun x v hk hm => ?_, fun x hk => ?_, I.apart, I.off, fun o2 e2 => by rw [FF.cut_ne (Ne.symm hL)] at e2; exact I.fcls _ e2⟩
  · obtain ⟨c, oc, u, a1, a2, a3, a4⟩ := I.cell x v hk hm
    have : c ≠ C := by rintro rfl; rw [a2] at h; cases h; rw [a3] at hd; cases hd
    exact ⟨c, oc, u, a1, by rw [FF.cut_ne this]; exact a2, a3, a4⟩
  · obtain ⟨c, oc, u, a1, a2, a3⟩ := I.holds x hk
    have : c ≠ C := by rintro rfl; rw [a2] at h; cases h; rw [a3] at hd; cases hd
    exact ⟨c, oc, u, a1, by rw [FF.cut_ne this]; exact a2, a3⟩

/-- a comprehension whose value goes to a name at once -/
theorem tx_compUse {e : Expr} {elt : Expr} {gens : List Comprehension} {scope : Scope} {pos p py : Pos} {g : Comprehension} {gs : List Comprehension} {xs0 : List String} {y : String} {Q : Loc → Hp → Prop} {Post : Shared → Prop} {E : Value → Shared → Prop}
    (he : e = .ListComp elt gens scope pos) (hg : gens = g :: gs) (ha : g.is_async = 0) (hs : ∀ x, foldedSetIterable g.iter env x = pure x) (K : ScOk env.kindOf scope xs0) (I : FrIn env F m) (B : Base env F0 F) (T : Stat fs w F) (R : Room fs A n) (S : St prog w F H s)
    (hk : env.kindOf (Str.ofString y) = some .local)
    (hFirst : TX prog w A F (eval g.iter env) (fun v H1 => ∃ xs, itemsOf H1 (ab v) = some xs ∧ ∀ acc ia o, Fresh H1 acc → H1 ia = none → F.k ia = none → ia ≠ 347 → ItAt H1 (ab v) xs 0 o → Loops prog w A F m e scope acc ia o (upd H1 acc (.list [])) (fun H' => Q (upL m y (.ref acc)) H')) H)
    (hPost : ∀ F' m' H' s', FrIn env F' m' → Base env F0 F' → St prog w F' H' s' → Q m' H' → Post s') :
    wpAny (model prog w) A (comprehension e scope env p (newList []) false (eval g.iter env) (some (assign (.Name (Str.ofString y) py) env))) (fun _ s' => Post s') E s := by
  subst he hg
  refine comp_core (g := g) (gs := gs) (Post := fun _ s' => Post s') (fin := fun acc H' => Q (upL m y (.ref acc)) H') rfl hs K I T R S hFirst fun acc C F' H' s' oC es ep hx ho hsa hC h3 hCL h1 h2 hmm S' hfin => ?_
  show wpAny _ _ (assign (.Name (Str.ofString y) py) env (.ref acc)) _ _ s'
  have hC0 : F0.k C = none := by
    cases e : F0.k C with
    | none => rfl
    | some q => rw [B.ext _ _ e] at hC; cases hC
  have B1 : Base env (F0.put C oC) F' := ⟨fun a q e => by
      by_cases h : a = C
      · subst h; rw [FF.put_self] at e; rw [h1]; exact e
      · rw [FF.put_ne h] at e; exact hx a q (B.ext a q e), ho.trans B.os, hsa.trans B.sa, by rw [FF.put_ne (Ne.symm hCL)]; exact B.off⟩
  refine wpAny_assign_Name (tx_store (I.mono hx ho) B1 S' (.inl hk) fun F3 s3 FI3 B3 S3 => ?_)
  have hC3 : F3.k C = some oC := B3.ext C oC (FF.put_self ..)
  obtain ⟨o3, g3, g4⟩ := S3.keepD hC3
  obtain ⟨mz, o1, es1, ep1, hz1, hz2, hz3, hz4⟩ := hmm
  have ho1 : o1.data = oC.data := by obtain ⟨o', k1, k2⟩ := S'.keepD h1; rw [k1] at hz1; cases hz1; exact k2
  refine ⟨mz, ⟨o3, es1, ep1, g3, (g4.trans ho1.symm).trans hz2, hz3, hz4⟩, fun h' hsb => ?_⟩
  refine hPost (F3.cut C) _ H' _ (FI3.cutC hCL hC3 h2) ⟨fun a q e => ?_, B3.os, B3.sa, B.off⟩ (S3.forget hC3 (noseq_dict h2) h3 hsb.extBut s3.toks) hfin
  have hne : a ≠ C := by rintro rfl; rw [hC0] at e; cases e
  rw [FF.cut_ne hne]
  exact B3.ext a q (by rw [FF.put_ne hne]; exact e)
end
end Csp

namespace Csp
open PySem PySem.W PySem.Calls PyProof.Rows PySem.SeqAt Builtin Builtin.ObjectAttr

abbrev Kinds := Str → Option NameKind

/-- the global names that stand for values -/
def gtab : List (String × Value) := [("BacktrackingSolver", .ref 186), ("RecursiveBacktrackingSolver", .ref 225), ("Domain", .ref 303), ("Constraint", .ref 347), ("Problem", .ref 110),
  ("MaxSumConstraint", .ref 410), ("MinSumConstraint", .ref 438), ("SomeInSetConstraint", .ref 466), ("_law_number", .ref 475), ("_law_edges", .ref 480), ("_law_points", .ref 487), ("list", .type "list")]
/-- the global names that are called in their own ways -/
def btab : List (String × Value) := [("len", .builtin "len"), ("isinstance", .builtin "isinstance"), ("range", .type "range"), ("set", .type "set"), ("list", .type "list"), ("tuple", .type "tuple"), ("Constraint", .ref 347)]

theorem k_gtab (w : World) : (gtab.all fun p => gval w p.1 == some p.2) = true := by kernel_rfl
theorem k_btab (w : World) : (btab.all fun p => gval w p.1 == some p.2) = true := by kernel_rfl

def plainName (x : String) : Bool := !(Str.ofString x == ("__debug__" : Str)) && !(Str.ofString x == ("__classdict__" : Str)) 
/-- a local name -/
def lcOk (k : Kinds) (x : String) : Bool := (k (Str.ofString x) == some .local || k (Str.ofString x) == some .cell || k (Str.ofString x) == some .free) && plainName x
def stOk (k : Kinds) (x : String) : Bool := k (Str.ofString x) == some .local || k (Str.ofString x) == some .cell
/-- a global name -/
def gl (k : Kinds) (x : String) : Expr → Bool
  | .Name n _ => n == Str.ofString x && k (Str.ofString x) == some .globalImplicit && plainName x
  | _ => false
def avIs : AV → Value → Bool
  | .ref a, .ref b => a == b
  | .other u, .type t => u == .type t
  | _, _ => false
def litOk (k : Kinds) (v : AV) : Expr → Bool
  | .Constant c _ _ => match c, v with
    | .none, .none => true
    | .bool b, .bool b' => b == b'
    | .int i, .int i' => i == i'
    | _, _ => false
  | e => gtab.any fun p => gl k p.1 e && avIs v p.2
/-- no call as the object of an attribute -/
def noCall : Expr → Bool
  | .Call .. => false
  | _ => true
def noStar : Expr → Bool
  | .Starred .. => false
  | _ => true
def noSlice : Expr → Bool
  | .Slice .. => false
  | _ => true
def noSet : Expr → Bool
  | .Set .. => false
  | _ => true

mutual
def simE : E → Kinds → Expr → Bool
  | .loc x, k, e => match e with | .Name n _ => n == Str.ofString x && lcOk k x | _ => false
  | .lit v, k, e => litOk k v e
  | .attr o n, k, e => match e with | .Attribute o' a _ => a == Str.ofString n && ownNames.contains n && noCall o' && simE o k o' | _ => false
  | .idx o i, k, e => match e with | .Subscript o' i' _ => noSlice i' && simE o k o' && simE i k i' | _ => false
  | .full o, k, e => match e with | .Subscript o' (.Slice none none none _) _ => simE o k o' | _ => false
  | .tail o i, k, e => match e with | .Subscript o' (.Slice (some l) none none _) _ => simE o k o' && simE i k l | _ => false
  | .bin op a b, k, e => match e with | .BinOp l o r _ => o == op && simE a k l && simE b k r | _ => false
  | .neg a, k, e => match e with | .UnaryOp .USub x _ => simE a k x | _ => false
  | .not a, k, e => match e with | .UnaryOp .Not x _ => simE a k x | _ => false
  | .and2 a b, k, e => match e with | .BoolOp .And [x, y] _ => simE a k x && simE b k y | _ => false
  | .or2 a b, k, e => match e with | .BoolOp .Or [x, y] _ => simE a k x && simE b k y | _ => false
  | .cmp op a b, k, e => match e with | .Compare l [o] [r] _ => o == op && !behindInMarks o r && simE a k l && simE b k r | _ => false
  | .ite c a b, k, e => match e with | .IfExp c' a' b' _ => simE c k c' && simE a k a' && simE b k b' | _ => false
  | .list es, k, e => match e with | .List xs _ => decide (xs.length < 30) && simL es k xs | _ => false
  | .tup es, k, e => match e with | .Tuple xs _ _ => decide (xs.length < 30) && simL es k xs | _ => false
  | .dict0, k, e => match e with | .Dict [] [] _ => true | _ => false
  | .dict1 a b, k, e => match e with | .Dict [some x] [y] _ => simE a k x && simE b k y | _ => false
  | .call f es, k, e => match e with
    | .Call (.Attribute ..) _ _ _ => false
    | .Call f' xs [] _ => simE f k f' && simL es k xs
    | _ => false
  | .meth o n es, k, e => match e with
    | .Call (.Attribute o' a apos) xs [] pos => a == Str.ofString n && noCall o' && decide (xs.length < 30) && apos.endLine == pos.line && simE o k o' && simL es k xs
    | _ => false
  | .bi b es, k, e => match e with
    | .Call f xs [] _ => (match b with
      | .len => gl k "len" f && simL es k xs
      | .list => gl k "list" f && simL es k xs
      | .range => gl k "range" f && simL es k xs && decide (xs.length = 1)
      | .range2 => gl k "range" f && simL es k xs && decide (xs.length = 2)
      | .isLT => gl k "isinstance" f && (match xs with | [x, .Tuple [a, b] _ _] => gl k "list" a && gl k "tuple" b && simL es k [x] | _ => false)
      | .isCon => gl k "isinstance" f && (match xs with | [x, c] => gl k "Constraint" c && simL es k [x] | _ => false)
      | .lenset => gl k "len" f && (match xs with | [.Call s [x] [] _] => gl k "set" s && simL es k [x] | _ => false))
    | _ => false
  | .comp elt x it ifs, k, e => match e with
    | .ListComp elt' [⟨.Name t _, iter, ifs', a⟩] scope _ => t == Str.ofString x && a == 0 && noSet iter && scOk k scope [x] && simE it k iter && simE elt (kc scope) elt' && simL ifs (kc scope) ifs'
    | _ => false
  | .comp2 elt x it y it2 c, k, e => match e with
    | .ListComp elt' [⟨.Name t _, iter, [], a⟩, ⟨.Name t2 _, iter2, [c'], a2⟩] scope _ => t == Str.ofString x && t2 == Str.ofString y && a == 0 && a2 == 0 && y != x && noSet iter && noSet iter2 && scOk k scope [x, y] && simE it k iter && simE it2 (kc scope) iter2 &&
        simE elt (kc scope) elt' && simE c (kc scope) c'
    | _ => false
def simL : EL → Kinds → List Expr → Bool
  | .nil, _, es => es.isEmpty
  | .cons a r, k, es => match es with | e :: es' => noStar e && simE a k e && simL r k es' | [] => false
end

def tgtOk (k : Kinds) : List String → List Expr → Bool
  | [], [] => true
  | x :: xs, .Name n _ :: es => n == Str.ofString x && stOk k x && tgtOk k xs es
  | _, _ => false
/-- a for's target, an assignment's target -/
def tgt1 (k : Kinds) (xs : List String) : Expr → Bool
  | .Name n _ => match xs with | [x] => n == Str.ofString x && stOk k x | _ => false
  | .Tuple es _ _ => decide (2 ≤ xs.length) && tgtOk k xs es
  | _ => false
def isListComp : Expr → Bool
  | .ListComp .. => true
  | .SetComp .. => true
  | .DictComp .. => true
  | _ => false
def isNoneLit : E → Bool
  | .lit .none => true
  | _ => false
def noTuple : Expr → Bool
  | .Tuple .. => false
  | _ => true

mutual
def simS : S → Kinds → Stmt → Bool
  | .expr e, k, s => match s with | .Expr v _ => !isListComp v && simE e k v | _ => false
  | .assign x e, k, s => match s with
    | .Assign [.Name n p] v sp => n == Str.ofString x && simE e k v && stOk k x && (!isListComp v || (match v with
      | .ListComp _ _ scope vp => k (Str.ofString x) == some .cell || (k (Str.ofString x) == some .local && p.line == vp.line && !(scope.names.any fun q => q.1 == Str.ofString x && (q.2 == .local || q.2 == .cell)))
      | _ => false))
    | _ => false
  | .assignT xs e, k, s => match s with | .Assign [.Tuple es a b] v _ => tgt1 k xs (.Tuple es a b) && simE e k v && noTuple v && !isListComp v | _ => false
  | .assignAttr o n e, k, s => match s with | .Assign [.Attribute o' a _] v _ => a == Str.ofString n && ownNames.contains n && simE o k o' && simE e k v && !isListComp v | _ => false
  | .assignIdx o i e, k, s => match s with | .Assign [.Subscript o' i' _] v _ => noSlice i' && simE o k o' && simE i k i' && simE e k v && !isListComp v | _ => false
  | .aug x op e, k, s => match s with | .AugAssign (.Name n _) o v _ => n == Str.ofString x && o == op && stOk k x && simE e k v | _ => false
  | .ret e, k, s => match s with | .Return (some v) _ => simE e k v | .Return none _ => isNoneLit e | _ => false
  | .ife c a b, k, s => match s with | .If c' a' b' _ => simE c k c' && simSL a k a' && simSL b k b' | _ => false
  | .for1 xs it body orelse, k, s => match s with | .For t it' body' orelse' _ => tgt1 k xs t && noSet it' && simE it k it' && simSL body k body' && simSL orelse k orelse' | _ => false
  | .whl c body orelse, k, s => match s with | .While c' body' orelse' _ => simE c k c' && simSL body k body' && simSL orelse k orelse' | _ => false
  | .brk, k, s => match s with | .Break _ => true | _ => false
  | .delIdx o i, k, s => match s with | .Delete [.Subscript o' i' _] _ => simE o k o' && simE i k i' | _ => false
  | .delFull o, k, s => match s with | .Delete [.Subscript o' (.Slice none none none _) _] _ => simE o k o' | _ => false
  | .delTail o i, k, s => match s with | .Delete [.Subscript o' (.Slice (some l) none none _) _] _ => simE o k o' && simE i k l | _ => false
  | .bad, _, _ => true
  | .yld _, _, _ => false
def simSL : SL → Kinds → List Stmt → Bool
  | .nil, _, ss => ss.isEmpty
  | .cons a r, k, ss => match ss with | s :: ss' => simS a k s && simSL r k ss' | [] => false
end
end Csp

namespace Csp
open PySem PySem.W PySem.Calls PyProof.Rows PySem.SeqAt Builtin Builtin.ObjectAttr

section
variable {prog : Program} {w : World} {fs : List Env} {A : Around} {F F0 : FF} {H : Hp} {s : Shared} {n : Nat} {env : Env} {m : Loc}

abbrev TV (prog : Program) (w : World) (A : Around) (F : FF) (env : Env) (e : Expr) (Q : AV → Hp → Prop) (H : Hp) : Prop := TX prog w A F (eval e env) (fun u H' => Q (ab u) H') H
abbrev TB (prog : Program) (w : World) (A : Around) (F : FF) (env : Env) (e : Expr) (Q : Bool → Hp → Prop) (H : Hp) : Prop := TX prog w A F (isTrue e env (eval e env)) Q H

theorem tx_letTmp {e : Expr} {o r : Value} {Q : Unit → Hp → Prop} (h : Q () H) : TX prog w A F (letTemporaryGo e o r) Q H := fun s S => wpAny_letTemporaryGo ⟨H, S, h⟩

theorem whole_of {o : Expr} (h : noCall o = true) (a : Str) (env : Env) (t : Sem Value) : attributeBase o a env t = t := by
  cases o <;> first | rfl | cases h

theorem tv_attr (T : Stat fs w F) {o : Expr} {nm : String} {pos : Pos} {Q : AV → Hp → Prop} (hn : ownNames.contains nm = true) (hc : noCall o = true) (h : TV prog w A F env o (fun v => attrP v nm Q) H) :
    TV prog w A F env (.Attribute o (Str.ofString nm) pos) Q H := by
  show TX prog w A F (attributeBase o (Str.ofString nm) env (eval o env) >>= _) _ H
  rw [whole_of hc]
  refine TX.bind (TX.mono h fun u H' q => TX.bind (TX.standAt (TX.bind (TX.holding (TX.mono (tx_attr T (List.contains_iff_mem.mp hn) q) fun r H'' q' => TX.bind (tx_letTmp (TX.pure q'))))))) 

theorem tv_idx (T : Stat fs w F) (R : Room fs A n) {o i : Expr} {pos : Pos} {Q : AV → Hp → Prop} (hs : ∀ v u, subscripted i false v u = operate [v, u] (getItem v u))
    (h : TV prog w A F env o (fun v => fun H1 => TV prog w A F env i (fun k => idxP v k Q) H1) H) : TV prog w A F env (.Subscript o i pos) Q H := by
  show TX prog w A F (eval (.Subscript o i pos) env) _ H
  rw [eval_Subscript]
  refine TX.bind (TX.mono h fun u H' q => TX.bind (TX.holding (TX.mono q fun k H'' q' => TX.bind (TX.standAt ?_))))
  exact tx_sub T R q' (hs u k)

theorem tv_full (T : Stat fs w F) (R : Room fs A n) {o : Expr} {p pos : Pos} {Q : AV → Hp → Prop} (h : TV prog w A F env o (fun v => fullP v Q) H) : TV prog w A F env (.Subscript o (.Slice none none none p) pos) Q H := by
  show TX prog w A F (eval (.Subscript o (.Slice none none none p) pos) env) _ H
  rw [eval_Subscript]
  refine TX.bind (TX.mono h fun u H' q => ?_)
  intro s S
  refine wpAny_bind (wpAny_holding ?_)
  show wpAny _ _ (eval (.Slice none none none p) env) _ _ s
  refine wpAny_bind (wpAny_pure (wpAny_bind (wpAny_holding (wpAny_pure (wpAny_bind (wpAny_holding (wpAny_pure ?_)))))))
  exact slice_new S fun sl s' S' hs => wpAny_bind (wpAny_standAt (slice_at (f := id) T R .none .none (fun items => by rw [slicePick_all]; rfl) q S' hs))

theorem tv_tail (T : Stat fs w F) (R : Room fs A n) {o l : Expr} {p pos : Pos} {Q : AV → Hp → Prop} (h : TV prog w A F env o (fun v => fun H1 => TV prog w A F env l (fun k => tailP v k Q) H1) H) : TV prog w A F env (.Subscript o (.Slice (some l) none none p) pos) Q H := by
  show TX prog w A F (eval (.Subscript o (.Slice (some l) none none p) pos) env) _ H
  rw [eval_Subscript]
  refine TX.bind (TX.mono h fun u H' q => ?_)
  intro s S
  refine wpAny_bind (wpAny_holding ?_)
  show wpAny _ _ (eval (.Slice (some l) none none p) env) _ _ s
  refine wpAny_bind (wpAny_mono (q s S) (fun k s2 z => ?_) fun _ _ z => z)
  obtain ⟨H'', S, q0⟩ := z
  refine wpAny_bind (wpAny_holding (wpAny_pure (wpAny_bind (wpAny_holding (wpAny_pure ?_)))))
  have q' : tailP (ab u) (ab k) Q H'' := q0
  unfold tailP at q'
  split at q'
  · rename_i a i e1 e2
    obtain ⟨t, rfl⟩ := ab_int e2
    split at q'
    · rename_i xs hx
      obtain ⟨b1, b2, q'⟩ := q'
      have hi : i = -(((-i).toNat : Nat) : Int) := by omega
      refine slice_new S fun sl s' S' hs => wpAny_bind (wpAny_standAt (slice_at (f := fun xs => xs.drop (xs.length - (-i).toNat)) T R (.int i t) .none (fun items => ?_) ?_ S' hs))
      · conv => lhs; rw [hi]
        rw [slicePick_last items _ (by omega)]
        simp [abl]
      · unfold slicesP
        rw [e1]
        dsimp only
        rw [hx]
        exact q'
    · exact q'.elim
  · exact q'.elim

theorem tv_bin {op : Operator} {a b : Expr} {pos : Pos} {Q : AV → Hp → Prop} (h : TV prog w A F env a (fun x => fun H1 => TV prog w A F env b (fun y => binP op x y Q) H1) H) : TV prog w A F env (.BinOp a op b pos) Q H := by
  show TX prog w A F (eval (.BinOp a op b pos) env) _ H
  rw [eval_BinOp]
  exact TX.bind (TX.mono h fun u H' q => TX.bind (TX.holding (TX.mono q fun k H'' q' => TX.bind (TX.standAt (TX.operate (tx_binary q'))))))

theorem tv_neg {a : Expr} {pos : Pos} {Q : AV → Hp → Prop} (h : TV prog w A F env a (fun x H1 => match x with | .int i => Q (.int (-i)) H1 | _ => False) H) : TV prog w A F env (.UnaryOp .USub a pos) Q H := by
  show TX prog w A F (eval a env >>= _) _ H
  refine TX.bind (TX.mono h fun u H' q => TX.bind (TX.standAt (TX.holding ?_)))
  dsimp only at q
  split at q
  · rename_i i e
    obtain ⟨t, rfl⟩ := ab_int e
    exact fun s S => P.neg_int ⟨H', S.toks _, q⟩
  · exact q.elim

theorem tv_not (T : Stat fs w F) (R : Room fs A n) {a : Expr} {pos : Pos} {Q : AV → Hp → Prop} (h : TV prog w A F env a (fun x => truthP x fun b => Q (.bool (!b))) H) : TV prog w A F env (.UnaryOp .Not a pos) Q H := by
  show TX prog w A F (eval a env >>= _) _ H
  refine TX.bind (TX.mono h fun u H' q => TX.bind (TX.standAt (TX.holding ?_)))
  unfold unaryOp
  refine TX.holding ?_
  show TX prog w A F (truthy u >>= fun b => pure (Value.bool (!b))) _ H'
  exact TX.bind (TX.mono (tx_truthy T R q) fun b H'' q' => TX.pure q')
theorem tb_not {a : Expr} {pos : Pos} {Q : Bool → Hp → Prop} (h : TB prog w A F env a (fun b => Q (!b)) H) : TB prog w A F env (.UnaryOp .Not a pos) Q H := by
  show TX prog w A F (isTrue a env (eval a env) >>= fun b => pure (!b)) _ H
  exact TX.bind (TX.mono h fun b H' q => TX.pure q)

theorem tv_bool2 (T : Stat fs w F) (R : Room fs A n) {op : BoolOp} {a b : Expr} {pos : Pos} {Q : AV → Hp → Prop}
    (h : TV prog w A F env a (fun x => truthP x fun t => if (op == .And) == t then (fun H1 => TV prog w A F env b Q H1) else Q x) H) : TV prog w A F env (.BoolOp op [a, b] pos) Q H := by
  show TX prog w A F (eval a env >>= _) _ H
  refine TX.bind (TX.mono h fun u H' q => TX.bind (TX.standAt (TX.bind (TX.holding (TX.mono (tx_truthy T R q) fun t H'' q' => ?_)))))
  cases op <;> cases t
  · exact TX.pure q'
  · exact q'
  · exact q'
  · exact TX.pure q'
theorem tb_bool2 {op : BoolOp} {a b : Expr} {pos : Pos} {Q : Bool → Hp → Prop}
    (h : TB prog w A F env a (fun t => if (op == .And) == t then (fun H1 => TB prog w A F env b Q H1) else Q t) H) : TB prog w A F env (.BoolOp op [a, b] pos) Q H := by
  show TX prog w A F (allTrue op [a, b] env) _ H
  have last : ∀ t H'', Q t H'' → TX prog w A F (match op, t with
      | .And, false => pure false
      | .Or, true => pure true
      | _, _ => allTrue op [] env) Q H'' := by
    intro t H'' q
    cases op <;> cases t
    · exact TX.pure q
    · show TX prog w A F (allTrue .And [] env) _ H''
      unfold allTrue; exact TX.pure q
    · show TX prog w A F (allTrue .Or [] env) _ H''
      unfold allTrue; exact TX.pure q
    · exact TX.pure q
  unfold allTrue
  refine TX.bind (TX.mono h fun t H' q => ?_)
  have two : TX prog w A F (isTrue b env (eval b env)) Q H' → TX prog w A F (allTrue op [b] env) Q H' := fun z => by
    unfold allTrue
    exact TX.bind (TX.mono z fun t H'' q => last t H'' q)
  cases op <;> cases t
  · exact TX.pure q
  · exact two q
  · exact two q
  · exact TX.pure q

theorem tv_cmp (T : Stat fs w F) (R : Room fs A n) {op : CmpOp} {a b : Expr} {pos : Pos} {Q : AV → Hp → Prop} (hm : behindInMarks op b = false)
    (h : TV prog w A F env a (fun x => fun H1 => TV prog w A F env b (fun y => cmpP op x y fun r => Q (.bool r)) H1) H) : TV prog w A F env (.Compare a [op] [b] pos) Q H := by
  show TX prog w A F (eval a env >>= fun l => compareChain pos l [op] [markedBehindIn op b (eval b env)]) _ H
  have e : markedBehindIn op b (eval b env) = eval b env := by unfold markedBehindIn; rw [hm]
  rw [e]
  refine TX.bind (TX.mono h fun u H' q => ?_)
  show TX prog w A F (holding [u] (eval b env) >>= _) _ H'
  refine TX.bind (TX.holding (TX.mono q fun k H'' q' => TX.bind (TX.standAt (TX.operate (TX.mono (tx_cmp T R q') fun v H3 z => ?_)))))
  obtain ⟨r, rfl, z⟩ := z
  exact z
theorem tb_cmp (T : Stat fs w F) (R : Room fs A n) {op : CmpOp} {a b : Expr} {pos : Pos} {Q : Bool → Hp → Prop} (hm : behindInMarks op b = false)
    (h : TV prog w A F env a (fun x => fun H1 => TV prog w A F env b (fun y => cmpP op x y Q) H1) H) : TB prog w A F env (.Compare a [op] [b] pos) Q H := by
  show TX prog w A F (eval a env >>= fun l => testChain pos l [op] [markedBehindIn op b (eval b env)]) _ H
  have e : markedBehindIn op b (eval b env) = eval b env := by unfold markedBehindIn; rw [hm]
  rw [e]
  refine TX.bind (TX.mono h fun u H' q => ?_)
  show TX prog w A F (holding [u] (eval b env) >>= _) _ H'
  refine TX.bind (TX.holding (TX.mono q fun k H'' q' => TX.bind (TX.standAt (TX.bind (TX.operate (TX.mono (tx_cmp T R q') fun v H3 z => ?_))))))
  obtain ⟨r, rfl, z⟩ := z
  exact TX.holding (fun s S => wpAny_truthy_bool ⟨H3, S, z⟩)

theorem tv_ite {c a b : Expr} {pos : Pos} {Q : AV → Hp → Prop} (h : TB prog w A F env c (fun t => if t then (fun H1 => TV prog w A F env a Q H1) else (fun H1 => TV prog w A F env b Q H1)) H) : TV prog w A F env (.IfExp c a b pos) Q H := by
  show TX prog w A F (isTrue c env (eval c env) >>= fun t => if t = true then eval a env else eval b env) _ H
  refine TX.bind (TX.mono h fun t H' q => ?_)
  cases t
  · exact q
  · exact q
theorem tb_ite {c a b : Expr} {pos : Pos} {Q : Bool → Hp → Prop} (h : TB prog w A F env c (fun t => if t then (fun H1 => TB prog w A F env a Q H1) else (fun H1 => TB prog w A F env b Q H1)) H) : TB prog w A F env (.IfExp c a b pos) Q H := by
  show TX prog w A F (isTrue c env (eval c env) >>= fun t => if t = true then isTrue a env (eval a env) else isTrue b env (eval b env)) _ H
  refine TX.bind (TX.mono h fun t H' q => ?_)
  cases t
  · exact q
  · exact q
/-- the truth of any other form -/
theorem tb_whole (T : Stat fs w F) (R : Room fs A n) {e : Expr} {Q : Bool → Hp → Prop} (he : isTrue e env (eval e env) = (eval e env >>= fun v => standAt e.pos >>= fun _ => holding [v] (truthy v))) (h : TV prog w A F env e (fun x => truthP x Q) H) : TB prog w A F env e Q H := by
  show TX prog w A F (isTrue e env (eval e env)) _ H
  rw [he]
  exact TX.bind (TX.mono h fun u H' q => TX.bind (TX.standAt (TX.holding (tx_truthy T R q))))
end
end Csp

namespace Csp
open PySem PySem.W PySem.Calls PyProof.Rows PySem.SeqAt Builtin Builtin.ObjectAttr

section
variable {prog : Program} {w : World} {fs : List Env} {A : Around} {F F0 : FF} {H : Hp} {s : Shared} {n : Nat} {env : Env} {m : Loc}

/-- a list of plain trees -/
abbrev TL (prog : Program) (w : World) (A : Around) (F : FF) (env : Env) (es : List Expr) (Q : List AV → Hp → Prop) (H : Hp) : Prop :=
  ∀ pos, TX prog w A F (spliced (backTo pos (starEach es env))) (fun vs H' => Q (vs.map ab) H') H

theorem star_cons {e : Expr} {r : List Expr} (h : noStar e = true) : starEach (e :: r) env = (false, eval e env) :: starEach r env := by
  cases e <;> first | rfl | cases h
theorem tl_nil {Q : List AV → Hp → Prop} (h : Q [] H) : TL prog w A F env [] Q H := fun pos => TX.pure h
theorem tl_cons {e : Expr} {r : List Expr} {Q : List AV → Hp → Prop} (hs : noStar e = true) (h : TV prog w A F env e (fun v => TL prog w A F env r (fun vs => Q (v :: vs))) H) : TL prog w A F env (e :: r) Q H := by
  intro pos s S
  rw [star_cons hs]
  refine spliced_cons (wpAny_mono (h s S) (fun v s1 z => ?_) fun _ _ z => z)
  obtain ⟨H1, S1, q⟩ := z
  refine wpAny_mono (q pos s1 S1) (fun vs s2 z => ?_) fun _ _ z => z
  obtain ⟨H2, S2, q⟩ := z
  exact ⟨H2, S2, q⟩
/-- no stars -/
def plainL : List Expr → Bool
  | [] => true
  | e :: r => noStar e && plainL r
theorem plain_any : ∀ {es : List Expr} (h : plainL es = true) (pos : Pos), (backTo pos (starEach es env)).any (·.1) = false
  | [], _, _ => rfl
  | e :: r, h, pos => by
    unfold plainL at h
    rw [Bool.and_eq_true] at h
    rw [star_cons h.1]
    show (false || (backTo pos (starEach r env)).any (·.1)) = false
    rw [plain_any h.2]; rfl
theorem big30 {k : Nat} (h : k ≤ 30) : k ≤ big := Nat.le_trans h (by decide)
theorem tv_list {es : List Expr} {pos : Pos} {Q : AV → Hp → Prop} (h : TL prog w A F env es (fun vs => fun H' => vs.length ≤ 30 ∧ newP (.list vs) Q H') H) : TV prog w A F env (.List es pos) Q H := by
  show TX prog w A F (standAt pos >>= fun _ => spliced (backTo pos (starEach es env)) >>= fun vs => newList vs) _ H
  refine TX.bind (TX.standAt (TX.bind (TX.mono (h pos) fun vs H' q => tx_newList (by have := q.1; rw [List.length_map] at this; exact big30 this) q.2)))
theorem tv_tup {es : List Expr} {k : Nat} {pos : Pos} {Q : AV → Hp → Prop} (h : TL prog w A F env es (fun vs => fun H' => vs.length ≤ 30 ∧ newP (.tuple vs) Q H') H) : TV prog w A F env (.Tuple es k pos) Q H := by
  show TX prog w A F (standAt pos >>= fun _ => spliced (backTo pos (starEach es env)) >>= fun vs => newTuple vs) _ H
  refine TX.bind (TX.standAt (TX.bind (TX.mono (h pos) fun vs H' q => tx_newTuple (by have := q.1; rw [List.length_map] at this; exact big30 this) q.2)))

theorem tv_dict0 {pos : Pos} {Q : AV → Hp → Prop} (h : ∀ a ep, Fresh H a → Q (.ref a) (upd H a (.dict [] ep))) : TV prog w A F env (.Dict [] [] pos) Q H := fun s S =>
  wpAny_Dict_empty ⟨_, S.alloc (o := { cls := .type "dict", data := .dict #[] }) (x := .dict [] 0) ⟨[], #[], ⟨rfl, rfl, rfl⟩, rfl, fun e he => by simp at he, .nil, by simp, rfl, Nat.zero_le _⟩ rfl rfl, h _ _ S.freshH⟩

theorem St.adopt (S : St prog w F H s) {a : Addr} {o : Obj} {x : AO} (hH : H a = none) (hF : F.k a = none) (h1 : 1 < a) (ho : s.heap.get? a = some o) (hx : Ok prog w o x) (hr : x.isRo = false) : St prog w F (upd H a x) s :=
  ⟨S.keep, fun b y e => by
    by_cases hb : b = a
    · subst hb
      rw [upd_self] at e; cases e
      exact ⟨o, ho, hx, noRo hr, fun _ => ⟨hF, h1⟩⟩
    · rw [upd_ne hb] at e
      exact S.own b y e, S.top, S.sa, S.gens, S.os⟩

theorem tv_dict1 {a b : Expr} {pos : Pos} {Q : AV → Hp → Prop}
    (h : ∀ F', (∀ c o, F.k c = some o → F'.k c = some o) → F'.os = F.os → F'.sa = F.sa → TV prog w A F' env a (fun kv => fun H1 => TV prog w A F' env b (fun vv => fun H2 => match kv with
      | .int i => ∀ c ep, Fresh H2 c → Q (.ref c) (upd H2 c (.dict [(i, vv)] ep))
      | _ => False) H1) H) : TV prog w A F env (.Dict [some a] [b] pos) Q H := by
  intro s S
  have fz : F.k s.heap.objs.size = none := S.freshF
  let o0 : Obj := { cls := .type "dict", data := .dict #[] }
  have S1 := S.newKnown (o := o0) (Nat.le_refl _) (fun _ _ e => Heap.get?_push_of_some _ e) (Heap.get?_push_size _ rfl) s.toks
  have old : ∀ c o, F.k c = some o → (F.put s.heap.objs.size o0).k c = some o := fun c o e => by rw [FF.put_ne (by rintro rfl; rw [fz] at e; cases e)]; exact e
  refine wpAny_Dict_pairs (knd := intKind prog w) (pairs := [(eval a env, do let x ← eval b env; standAt pos; pure x)]) rfl (by simp) (by simp) ?_
  refine evalPairs_cons (wpAny_mono (h _ old rfl rfl _ S1) (fun kv s2 z => ?_) fun _ _ z => z.elim)
  obtain ⟨H1, S2, q⟩ := z
  refine wpAny_bind (wpAny_mono (q s2 S2) (fun vv s3 z => ?_) fun _ _ z => z.elim)
  obtain ⟨H2, S3, q3⟩ := z
  refine wpAny_bind (wpAny_standAt (wpAny_pure (evalPairs_nil ?_)))
  dsimp only at q3
  have hD : s3.heap.get? s.heap.objs.size = some o0 := S3.keepX (FF.put_self ..) (by intro e; exact absurd e (by decide))
  have hH2 : H2 s.heap.objs.size = none := S3.noOwn (o := o0) (FF.put_self ..) (fun _ _ e => by cases e)
  split at q3
  · rename_i i e
    obtain ⟨t, rfl⟩ := ab_int e
    refine ⟨[(i, vv)], ⟨intKind_is prog w i t, rfl, trivial⟩, ⟨o0, #[], 0, hD, ⟨rfl, rfl, rfl⟩, rfl, fun e he => by simp at he, .nil, by simp⟩, fun h' hd hs => ?_⟩
    obtain ⟨o, ents, ep, b1, b2, b3, b4, b5, b6⟩ := hd
    have S4 := (S3.forget (o := o0) (FF.put_self ..) (fun _ _ e => by cases e) (Nat.ne_of_gt S.size) hs.extBut (s3.toks + 1)).back S (fun c o e => by
      rw [FF.cut_ne (by rintro rfl; rw [fz] at e; cases e)]; exact old c o e) rfl rfl
    exact ⟨_, S4.adopt (x := .dict [(i, ab vv)] ep) hH2 fz (Nat.lt_trans (by decide : 1 < 347) S.size) b1 ⟨_, ents, b2, b3, b4, b5, b6, rfl, by show (1 : Nat) ≤ big; decide⟩ rfl, q3 _ _ ⟨hH2, Nat.ne_of_gt S.size⟩⟩
  · exact q3.elim

theorem tv_call (R : Room fs A n) {f : Expr} {es : List Expr} {pos : Pos} {Q : AV → Hp → Prop} (hf : ∀ o a p, f ≠ .Attribute o a p) (hp : plainL es = true)
    (h : TV prog w A F env f (fun g => fun H1 => TL prog w A F env es (fun vs => fun H2 => (∀ gv, ab gv = g → Kept prog w F gv H2) ∧ ∀ gv (vv : List Value), ab gv = g → vv.map ab = vs → TX prog w A F (call gv vv) (fun v => Q (ab v)) H2) H1) H) : TV prog w A F env (.Call f es [] pos) Q H := by
  have e : eval (.Call f es [] pos) env = (do callWith pos (← eval f env) [] (backTo pos (starEach es env)) (backToKw pos (keywordEach [] env))) := by
    cases f <;> first | rfl | exact absurd rfl (hf _ _ _)
  show TX prog w A F (eval (.Call f es [] pos) env) _ H
  rw [e]
  refine TX.bind (TX.mono h fun gv H1 q => ?_)
  exact tx_callWith (plain_any hp pos) (TX.mono (q pos) fun vs H2 z => ⟨z.1 gv rfl, z.2 gv vs rfl rfl⟩)

theorem tv_meth (T : Stat fs w F) {o : Expr} {nm : String} {es : List Expr} {pos apos : Pos} {Q : AV → Hp → Prop} (hc : noCall o = true) (hp : plainL es = true) (hl : es.length < 30) (hpos : (apos.endLine == pos.line) = true)
    (h : TV prog w A F env o (fun ov => fun H1 => ∃ me, methOf H1 ov nm = some me ∧ ∀ (ovv : Value) p, ab ovv = ov → MeOk me ovv p → TL prog w A F env es (fun vs => fun H2 => Kept prog w F p.1 H2 ∧ ∀ vv : List Value, vv.map ab = vs → TX prog w A F (call p.1 (p.2 ++ vv)) (fun v => Q (ab v)) H2) H1) H) :
    TV prog w A F env (.Call (.Attribute o (Str.ofString nm) apos) es [] pos) Q H := by
  show TX prog w A F (attributeBase o (Str.ofString nm) env (eval o env) >>= _) _ H
  rw [whole_of hc]
  refine TX.bind (TX.mono h fun ov H1 q => TX.bind (TX.standAt ?_))
  obtain ⟨me, hm, q⟩ := q
  have few : methodCallForm (es.length + ([] : List Keyword).length) (backTo pos (starEach es env)) (backToKw pos (keywordEach [] env)) = true := by
    unfold methodCallForm
    have h1 : (backTo pos (starEach es env)).all (fun x => !x.1) = true := by
      have := plain_any (env := env) hp pos
      rw [List.any_eq_false] at this
      exact List.all_eq_true.mpr fun x hx => by simpa using this x hx
    rw [h1]
    have h2 : backToKw pos (keywordEach [] env) = [] := rfl
    rw [h2]
    simpa using hl
  unfold methodCall
  rw [few]
  refine TX.bind (TX.holding (TX.mono (tx_getMethod (Q := fun p H' => H' = H1 ∧ MeOk me ov p) T hm fun p hp => ⟨rfl, hp⟩) fun p H2 z => ?_))
  obtain ⟨rfl, hpm⟩ := z
  have hcp : methodCallPos true o env apos pos = pure pos := by
    unfold methodCallPos
    rw [hpos]; rfl
  rw [hcp]
  refine TX.bind (TX.pure ?_)
  exact tx_callWith (plain_any hp pos) (TX.mono (q ov p rfl hpm pos) fun vs H2 z => ⟨z.1, z.2 vs rfl⟩)
end
end Csp

namespace Csp
open PySem PySem.W PySem.Calls PyProof.Rows PySem.SeqAt Builtin Builtin.ObjectAttr

theorem ab_other {v u : Value} (h : ab v = .other u) : v = u := by cases v <;> simp_all [ab]

section
variable {prog : Program} {w : World} {fs : List Env} {A : Around} {F F0 : FF} {H : Hp} {s : Shared} {n : Nat} {env : Env} {m : Loc}

theorem gl_of {k : Kinds} {x : String} {e : Expr} (h : gl k x e = true) : ∃ p, e = .Name (Str.ofString x) p ∧ k (Str.ofString x) = some .globalImplicit ∧ (Str.ofString x == ("__debug__" : Str)) = false := by
  cases e <;> simp only [gl, Bool.false_eq_true] at h
  rename_i i p
  simp only [Bool.and_eq_true, beq_iff_eq] at h
  obtain ⟨⟨rfl, h2⟩, h3⟩ := h
  unfold plainName at h3
  simp only [Bool.and_eq_true, Bool.not_eq_true'] at h3
  exact ⟨p, rfl, h2, h3.1⟩
theorem tv_gl {k : Kinds} {x : String} {e : Expr} {v : Value} (h : gl k x e = true) (hk : ∀ q, env.kindOf q = k q) (I : FrIn env F m) (T : Stat fs w F) (hv : gval w x = some v) {Q : Value → Hp → Prop} (q : Q v H) : TX prog w A F (eval e env) Q H := by
  obtain ⟨p, rfl, h1, h2⟩ := gl_of h
  exact tx_global I T ((hk _).trans h1) h2 hv q
theorem btab_val (w : World) {x : String} {v : Value} (h : (x, v) ∈ btab) : gval w x = some v := beq_iff_eq.mp (List.all_eq_true.mp (k_btab w) _ h)

theorem both {e : Expr} (T : Stat fs w F) (R : Room fs A n) {v : PT AV} (he : isTrue e env (eval e env) = (eval e env >>= fun v => standAt e.pos >>= fun _ => holding [v] (truthy v))) (hv : ∀ Q H, v Q H → TV prog w A F env e Q H) :
    (∀ Q H, (VT.of v).v Q H → TV prog w A F env e Q H) ∧ (∀ Q H, (VT.of v).t Q H → TB prog w A F env e Q H) := ⟨hv, fun Q H h => tb_whole T R he (hv _ _ h)⟩

theorem tv_lit {k : Kinds} {v : AV} {e : Expr} (hs : litOk k v e = true) (hk : ∀ q, env.kindOf q = k q) (I : FrIn env F m) (T : Stat fs w F) {Q : AV → Hp → Prop} (q : Q v H) : TV prog w A F env e Q H := by
  unfold litOk at hs
  split at hs
  · rename_i c kk p
    show TX prog w A F (constValue env c) _ H
    split at hs
    · exact TX.pure q
    · have := beq_iff_eq.mp hs; subst this; exact TX.pure q
    · have := beq_iff_eq.mp hs; subst this; exact TX.mkInt fun t => q
    · cases hs
  · obtain ⟨p, hp, hs⟩ := List.any_eq_true.mp hs
    rw [Bool.and_eq_true] at hs
    refine tv_gl hs.1 hk I T (beq_iff_eq.mp (List.all_eq_true.mp (k_gtab w) _ hp)) ?_
    have : ab p.2 = v := by
      have h2 := hs.2
      unfold avIs at h2
      split at h2
      · rename_i e1 _; rw [e1]; exact congrArg AV.ref (beq_iff_eq.mp h2).symm
      · rename_i e1 _; rw [e1]; exact congrArg AV.other (beq_iff_eq.mp h2).symm
      · cases h2
    rw [this]; exact q
theorem lit_true {k : Kinds} {v : AV} {e : Expr} (hs : litOk k v e = true) : isTrue e env (eval e env) = (eval e env >>= fun v => standAt e.pos >>= fun _ => holding [v] (truthy v)) := by
  unfold litOk at hs
  split at hs
  · rfl
  · obtain ⟨p, hp, hs⟩ := List.any_eq_true.mp hs
    rw [Bool.and_eq_true] at hs
    obtain ⟨q, rfl, _⟩ := gl_of hs.1
    rfl

theorem tv_biN (T : Stat fs w F) (R : Room fs A n) (I : FrIn env F m) {k : Kinds} (hk : ∀ q, env.kindOf q = k q) {x : String} {fv : Value} {f : Expr} {es : List Expr} {pos : Pos} {b : Bi} {Q : AV → Hp → Prop} (hg : gl k x f = true) (hv : (x, fv) ∈ btab) (hp : plainL es = true)
    (hkept : ∀ H, Kept prog w F fv H) (hcall : ∀ (vv : List Value) H2, vv.length = es.length ∨ True → biP b (vv.map ab) Q H2 → TX prog w A F (call fv vv) (fun v => Q (ab v)) H2) (h : TL prog w A F env es (fun vs => biP b vs Q) H) : TV prog w A F env (.Call f es [] pos) Q H := by
  obtain ⟨p, rfl, h1, h2⟩ := gl_of hg
  show TX prog w A F (eval (.Name (Str.ofString x) p) env >>= fun g => callWith pos g [] (backTo pos (starEach es env)) (backToKw pos (keywordEach [] env))) _ H
  refine TX.bind (tx_global I T ((hk _).trans h1) h2 (btab_val w hv) ?_)
  exact tx_callWith (plain_any hp pos) (TX.mono (h pos) fun vs H2 z => ⟨hkept _, hcall vs H2 (.inr trivial) z⟩)

theorem one_arg {P : AV → Prop} {vv : List Value} (h : ∀ v, P v → True) : True := trivial

theorem bi_len (T : Stat fs w F) (R : Room fs A n) {vv : List Value} {Q : AV → Hp → Prop} (h : biP .len (vv.map ab) Q H) : TX prog w A F (call (.builtin "len") vv) (fun v => Q (ab v)) H := by
  match vv, h with
  | [], h => exact h.elim
  | [v], h => exact tx_len T R h
  | [_, _], h => exact h.elim
  | _ :: _ :: _ :: _, h => exact h.elim
theorem bi_list (T : Stat fs w F) (R : Room fs A n) {vv : List Value} {Q : AV → Hp → Prop} (h : biP .list (vv.map ab) Q H) : TX prog w A F (call (.type "list") vv) (fun v => Q (ab v)) H := by
  match vv, h with
  | [], h => exact h.elim
  | [v], h => exact tx_listOf T R h
  | [_, _], h => exact h.elim
  | _ :: _ :: _ :: _, h => exact h.elim
theorem bi_range {vv : List Value} {Q : AV → Hp → Prop} (h : biP .range (vv.map ab) Q H) : TX prog w A F (call (.type "range") vv) (fun v => Q (ab v)) H := by
  match vv, h with
  | [], h => exact h.elim
  | [v], h => exact tx_range1 h
  | [_, _], h => exact h.elim
  | _ :: _ :: _ :: _, h => exact h.elim
theorem bi_range2 {vv : List Value} {Q : AV → Hp → Prop} (h : biP .range2 (vv.map ab) Q H) : TX prog w A F (call (.type "range") vv) (fun v => Q (ab v)) H := by
  match vv, h with
  | [], h => exact h.elim
  | [v], h => exact h.elim
  | [_, _], h => exact tx_range2 h
  | _ :: _ :: _ :: _, h => exact h.elim
theorem kept_type {t : String} : Kept prog w F (.type t) H := fun s S => ⟨.machine, .now⟩

theorem tv_isCon (T : Stat fs w F) (R : Room fs A n) (I : FrIn env F m) {k : Kinds} (hk : ∀ q, env.kindOf q = k q) {f x c : Expr} {pos : Pos} {Q : AV → Hp → Prop} (hg : gl k "isinstance" f = true) (hc : gl k "Constraint" c = true) (hx : noStar x = true)
    (h : TV prog w A F env x (fun v => isConP v Q) H) : TV prog w A F env (.Call f [x, c] [] pos) Q H := by
  obtain ⟨p, rfl, h1, h2⟩ := gl_of hg
  obtain ⟨pc, rfl, h3, h4⟩ := gl_of hc
  show TX prog w A F (eval (.Name (Str.ofString "isinstance") p) env >>= fun g => callWith pos g [] (backTo pos (starEach [x, .Name (Str.ofString "Constraint") pc] env)) (backToKw pos (keywordEach [] env))) _ H
  refine TX.bind (tx_global I T ((hk _).trans h1) h2 (btab_val w (v := .builtin "isinstance") (by simp [btab])) ?_)
  have hl : TL prog w A F env [x, .Name (Str.ofString "Constraint") pc] (fun vs H2 => ∃ v, vs = [v, .ref 347] ∧ isConP v Q H2) H :=
    tl_cons hx (TX.mono h fun v H1 q => tl_cons rfl (tv_gl hc hk I T (btab_val w (v := .ref 347) (by simp [btab])) (tl_nil ⟨_, rfl, q⟩)))
  refine tx_callWith (plain_any (by show (noStar x && _) = true; rw [hx]; rfl) pos) (TX.mono (hl pos) fun vs H2 z => ⟨kept_bi, ?_⟩)
  obtain ⟨v, e, q⟩ := z
  obtain ⟨a, r, rfl, e1, e2⟩ := List.map_eq_cons_iff.mp e
  obtain ⟨b, r', rfl, e3, e4⟩ := List.map_eq_cons_iff.mp e2
  obtain rfl := List.map_eq_nil_iff.mp e4
  obtain rfl := ab_ref e3
  rw [← e1] at q
  exact tx_isCon T R q

theorem tv_isLT (T : Stat fs w F) (R : Room fs A n) (I : FrIn env F m) {k : Kinds} (hk : ∀ q, env.kindOf q = k q) {f x a b : Expr} {kk : Nat} {pos p2 : Pos} {Q : AV → Hp → Prop} (hg : gl k "isinstance" f = true) (ha : gl k "list" a = true) (hb : gl k "tuple" b = true) (hx : noStar x = true)
    (h : TV prog w A F env x (fun v => isLTP v Q) H) : TV prog w A F env (.Call f [x, .Tuple [a, b] kk p2] [] pos) Q H := by
  obtain ⟨p, rfl, h1, h2⟩ := gl_of hg
  obtain ⟨pa, rfl, _, _⟩ := gl_of ha
  obtain ⟨pb, rfl, _, _⟩ := gl_of hb
  show TX prog w A F (eval (.Name (Str.ofString "isinstance") p) env >>= fun g => callWith pos g [] (backTo pos (starEach [x, .Tuple [.Name (Str.ofString "list") pa, .Name (Str.ofString "tuple") pb] kk p2] env)) (backToKw pos (keywordEach [] env))) _ H
  refine TX.bind (tx_global I T ((hk _).trans h1) h2 (btab_val w (v := .builtin "isinstance") (by simp [btab])) ?_)
  intro s S
  refine Calls.callWith_builtin (plain_any (by show (noStar x && _) = true; rw [hx]; rfl) pos) ?_
  rw [star_cons hx]
  refine Calls.evalArgs_plain (Calls.spliced_cons (wpAny_mono (h s S) (fun xv s1 z => ?_) fun _ _ z => z))
  obtain ⟨H1, S1, q⟩ := z
  refine Calls.spliced_cons ?_
  show wpAny _ _ (standAt p2 >>= fun _ => spliced (backTo p2 (starEach [.Name (Str.ofString "list") pa, .Name (Str.ofString "tuple") pb] env)) >>= fun vs => newTuple vs) _ _ s1
  refine wpAny_bind (wpAny_standAt (wpAny_bind (Calls.spliced_cons (wpAny_mono (tv_gl ha hk I T (btab_val w (v := .type "list") (by simp [btab])) (Q := fun v H' => v = .type "list" ∧ H' = H1) ⟨rfl, rfl⟩ s1 S1) (fun v1 s2 z => ?_) fun _ _ z => z))))
  obtain ⟨H2, S2, rfl, e2⟩ := z
  rw [e2] at S2
  refine Calls.spliced_cons (wpAny_mono (tv_gl hb hk I T (btab_val w (v := .type "tuple") (by simp [btab])) (Q := fun v H' => v = .type "tuple" ∧ H' = H1) ⟨rfl, rfl⟩ s2 S2) (fun v2 s3 z => ?_) fun _ _ z => z)
  obtain ⟨H3, S3, rfl, e3⟩ := z
  rw [e3] at S3
  refine Calls.spliced_nil (wpAny_newTuple (Calls.spliced_nil ?_))
  exact isLT_at q (S3.push _) (Heap.get?_push_size _ rfl)

theorem tv_lenset (T : Stat fs w F) (R : Room fs A n) (I : FrIn env F m) {k : Kinds} (hk : ∀ q, env.kindOf q = k q) {f x g : Expr} {pos p2 : Pos} {Q : AV → Hp → Prop} (hg : gl k "len" f = true) (ha : gl k "set" g = true) (hx : noStar x = true)
    (h : TV prog w A F env x (fun v => lensetP v Q) H) : TV prog w A F env (.Call f [.Call g [x] [] p2] [] pos) Q H := by
  obtain ⟨p, rfl, h1, h2⟩ := gl_of hg
  obtain ⟨pa, rfl, h3, h4⟩ := gl_of ha
  show TX prog w A F (eval (.Name (Str.ofString "len") p) env >>= fun g => callWith pos g [] (backTo pos (starEach [.Call (.Name (Str.ofString "set") pa) [x] [] p2] env)) (backToKw pos (keywordEach [] env))) _ H
  refine TX.bind (tx_global I T ((hk _).trans h1) h2 (btab_val w (v := .builtin "len") (by simp [btab])) ?_)
  intro s S
  refine Calls.callWith_builtin (plain_any (by simp [plainL, noStar]) pos) ?_
  refine Calls.evalArgs_plain (Calls.spliced_cons ?_)
  show wpAny _ _ (eval (.Name (Str.ofString "set") pa) env >>= fun g => callWith p2 g [] (backTo p2 (starEach [x] env)) (backToKw p2 (keywordEach [] env))) _ _ s
  refine wpAny_bind (wpAny_mono (tv_gl ha hk I T (btab_val w (v := .type "set") (by simp [btab])) (Q := fun v H' => v = .type "set" ∧ H' = H) ⟨rfl, rfl⟩ s S) (fun gv s1 z => ?_) fun _ _ z => z)
  obtain ⟨H1, S1, rfl, e1⟩ := z
  rw [e1] at S1
  rw [star_cons hx]
  refine W.callWith_of (P := fun _ => True) rfl (fun h _ => ⟨.machine, .inr (.inl rfl), .now⟩) ?_
  refine Calls.evalArgs_plain (Calls.spliced_cons (wpAny_mono (h s1 S1) (fun xv s2 z => ?_) fun _ _ z => z))
  obtain ⟨H2, S2, q⟩ := z
  refine Calls.spliced_nil ⟨trivial, wpAny_mono (setOf_list R q S2) (fun r s3 z => ?_) fun _ _ z => z⟩
  obtain ⟨c, hq, hI⟩ := z
  exact Calls.spliced_nil (len_setN hq hI)
end
end Csp

namespace Csp
open PySem PySem.W PySem.Calls PyProof.Rows PySem.SeqAt Builtin Builtin.ObjectAttr

section
variable {prog : Program} {w : World} {fs : List Env} {A : Around} {n : Nat}

def BX (prog : Program) (w : World) (n : Nat) (A : Around) (F : FF) (m : Loc) (env : Env) (x : E) (e : Expr) : Prop :=
  (∀ Q H, (semX (CX prog w n) m x).v Q H → TV prog w A F env e Q H) ∧ (∀ Q H, (semX (CX prog w n) m x).t Q H → TB prog w A F env e Q H)

theorem lcOk_of {k : Kinds} {x : String} (h : lcOk k x = true) : (k (Str.ofString x) = some .local ∨ k (Str.ofString x) = some .cell ∨ k (Str.ofString x) = some .free) ∧ (Str.ofString x == ("__debug__" : Str)) = false ∧ (Str.ofString x == ("__classdict__" : Str)) = false := by
  unfold lcOk plainName at h
  simp only [Bool.and_eq_true, Bool.or_eq_true, beq_iff_eq, Bool.not_eq_true'] at h
  obtain ⟨h1, h2⟩ := h
  refine ⟨?_, h2⟩
  rcases h1 with (h1 | h1) | h1
  · exact .inl h1
  · exact .inr (.inl h1)
  · exact .inr (.inr h1)
theorem noSlice_sub {i : Expr} (h : noSlice i = true) : ∀ v u, subscripted i false v u = operate [v, u] (getItem v u) := by
  intro v u
  cases i <;> first | rfl | cases h
theorem noSet_of {e : Expr} {env : Env} (h : noSet e = true) : ∀ x, foldedSetIterable e env x = pure x := by
  intro x
  cases e <;> first | rfl | cases h

theorem kept_me {F : FF} {H : Hp} (T : Stat fs w F) {ov : Value} {nm : String} {me : Me} {p : Value × List Value} (hm : methOf H (ab ov) nm = some me) (ho : MeOk me ov p) : ∀ H2, Kept prog w F p.1 H2 := by
  intro H2
  cases me with
  | py f =>
    obtain rfl : p = (.ref f, [ov]) := ho
    unfold methOf at hm
    split at hm
    · split at hm <;> cases hm
    · split at hm
      · cases hm
      · split at hm
        · unfold listMeth at hm
          split at hm <;> cases hm
        · unfold dictMeth at hm
          split at hm <;> cases hm
        · split at hm
          · cases hmm : methC _ nm with
            | none => rw [hmm] at hm; cases hm
            | some g =>
              rw [hmm] at hm; cases hm
              have k := List.all_eq_true.mp (k_meth w) _ (mem_lookup hmm)
              simp only [Bool.and_eq_true, beq_iff_eq] at k
              exact kept_K T k.2
          · cases hm
        · split at hm
          · split at hm
            · split at hm
              · rename_i g hg
                cases hm
                have k := List.all_eq_true.mp (k_methD w) _ (mem_lookup hg)
                simp only [Bool.and_eq_true, beq_iff_eq] at k
                exact kept_K T k.2
              · unfold domMeth at hm
                split at hm <;> cases hm
            · cases hm
          · cases hm
        · cases hm
    · cases hm
  | bi b =>
    obtain rfl : p = (.builtin b.idOf, [ov]) := ho
    exact kept_bi
  | fn f =>
    obtain rfl : p = (.ref f, []) := ho
    unfold methOf at hm
    split at hm
    · split at hm <;> cases hm
    · split at hm
      · cases hm; exact kept_K T (k_336 w)
      · split at hm
        · unfold listMeth at hm
          split at hm <;> cases hm
        · unfold dictMeth at hm
          split at hm <;> cases hm
        · split at hm
          · cases hmm : methC _ nm <;> rw [hmm] at hm <;> cases hm
          · cases hm
        · split at hm
          · split at hm
            · split at hm
              · cases hm
              · unfold domMeth at hm
                split at hm <;> cases hm
            · cases hm
          · cases hm
        · cases hm
    · cases hm
  | xb id =>
    obtain rfl : p = (.builtin id, [ov]) := ho
    exact kept_bi
  | linit =>
    obtain rfl : p = (.builtin "list.__init__", []) := ho
    exact kept_bi

theorem tx_linit {F : FF} {H : Hp} (T : Stat fs w F) {vv : List Value} {Q : AV → Hp → Prop} (h : linitP (vv.map ab) Q H) : TX prog w A F (call (.builtin "list.__init__") vv) (fun v => Q (ab v)) H := by
  intro s S
  unfold linitP at h
  split at h
  · rename_i a l e1
    obtain ⟨u, r, rfl, e2, e3⟩ := List.map_eq_cons_iff.mp e1
    obtain ⟨u2, r2, rfl, e4, e5⟩ := List.map_eq_cons_iff.mp e3
    obtain rfl := List.map_eq_nil_iff.mp e5
    obtain rfl := ab_ref e2
    obtain rfl := ab_ref e4
    split at h
    · rename_i C dx xs ys hx hl
      obtain ⟨rfl, rfl, h⟩ := h
      have X := T.inK S
      have hne : l ≠ a := by rintro rfl; rw [hx] at hl; cases hl
      refine dom_call' (name := "__init__") X (fun M => St.domType S hx M) PySem.F.slot_list_init PySem.F.entry_list_init (.inl (by decide +kernel)) (by decide +kernel) (PySem.F.args_list_init_2 _ _) ?_
      obtain ⟨C, od, items, m, sl, h1, e6, h3, _, h5, up⟩ := (IsSeq.dom dx []).get S hx
      obtain rfl := h5 (fun ys q => by cases q)
      show wpAny _ _ (Builtin.List.listItems (.ref a) >>= _) _ _ s
      unfold Builtin.List.listItems
      refine wpAny_bind (wpAny_bind (wpAny_seqItems h1 rfl (wpAny_pure ?_)))
      have S1 := up (fun _ => #[]) s.toks (Nat.zero_le _)
      refine wpAny_bind (m := updateSeq a _) (wpAny_updateSeq h1 rfl (hz := Nat.le_trans h3 big_line) (_hz' := Nat.zero_le _) ?_)
      refine wpAny_bind (wpAny_letGo ?_)
      have hx1 : (upd H a (.dom 303 dx (abl #[]))) a = some (.dom 303 dx []) := upd_self ..
      have hl1 : (upd H a (.dom 303 dx (abl #[]))) l = some (.list ys) := (upd_ne hne).trans hl
      generalize hs1 : ({ s with heap := s.heap.update a (Obj.mapSeq fun _ => #[]) } : Shared) = s1
      have S1' : St prog w F (upd H a (.dom 303 dx (abl #[]))) s1 := hs1 ▸ S1
      obtain ⟨C2, od2, items0, m0, sl0, g1, g2, g3, _, g5, up2⟩ := (IsSeq.dom dx []).get S1' hx1
      obtain rfl := g5 (fun ys q => by cases q)
      obtain ⟨items2, m2, g6, rfl, g7⟩ := S1'.list hl1
      unfold listO at g6
      have hit : items0 = #[] := by
        have := abl_length items0
        rw [g2] at this
        exact Array.eq_empty_of_size_eq_zero this.symm
      subst hit
      have hz' : ((#[] : Array Value) ++ items2).size ≤ sizeLine + 1 := by simpa using big_line1 g7
      have hd : ¬(!(#[] : Array Value).isEmpty && Builtin.List.listTooLong ((#[] : Array Value).size + items2.size)) = true := by simp
      have up' := up2 (fun x => x ++ items2) s1.toks (by simpa using g7)
      rw [upd_upd] at up'
      have fin : (abl ((#[] : Array Value) ++ items2)) = abl items2 := by simp
      rw [fin] at up'
      obtain ⟨hp, g, d, tk, os⟩ := s1
      unfold Builtin.List.listExtendWith
      wp_walk using (wpAny_updateSeq g1 rfl (hz := Nat.zero_le _) (_hz' := hz')), PySem.AutoSeq1.wpAny_loadPart' g1, PySem.AutoSeq1.wpAny_loadPart' g6
      exact ⟨_, up', h⟩
    · exact h.elim
  · exact h.elim

theorem tx_biMeth {F : FF} {H : Hp} (T : Stat fs w F) {b : BM} {ov : Value} {vv : List Value} {Q : AV → Hp → Prop} (h : biMeth b (ab ov) (vv.map ab) Q H) : TX prog w A F (call (.builtin b.idOf) ([ov] ++ vv)) (fun v => Q (ab v)) H := by
  unfold biMeth at h
  split at h
  · rename_i a e
    obtain rfl := ab_ref e
    cases b with
    | lAppend =>
      dsimp only at h
      split at h
      · rename_i v xs e1 hx
        obtain ⟨u, r, rfl, rfl, e3⟩ := List.map_eq_cons_iff.mp e1
        obtain rfl := List.map_eq_nil_iff.mp e3
        exact tx_append hx h.1 h.2
      · exact h.elim
    | lPop =>
      dsimp only at h
      split at h
      · rename_i xs e1 hx
        obtain rfl := List.map_eq_nil_iff.mp e1
        split at h
        · rename_i v hv
          exact tx_pop hx hv h
        · exact h.elim
      · exact h.elim
    | dCopy =>
      dsimp only at h
      split at h
      · rename_i es ep e1 hx
        obtain rfl := List.map_eq_nil_iff.mp e1
        exact tx_dictCopy T hx h
      · exact h.elim
    | dValues =>
      dsimp only at h
      split at h
      · rename_i es ep e1 hx
        obtain rfl := List.map_eq_nil_iff.mp e1
        exact tx_dictValues T hx h
      · exact h.elim
    | domRemove =>
      dsimp only at h
      split at h
      · rename_i i C dx xs e1 hx
        obtain ⟨u, r, rfl, e2, e3⟩ := List.map_eq_cons_iff.mp e1
        obtain rfl := List.map_eq_nil_iff.mp e3
        obtain ⟨rfl, h1, h2, h3⟩ := h
        exact tx_domRemove T e2 hx h1 h2 h3
      · exact h.elim
    | domExtend =>
      dsimp only at h
      split at h
      · rename_i l C dx xs e1 hx
        obtain ⟨u, r, rfl, e2, e3⟩ := List.map_eq_cons_iff.mp e1
        obtain rfl := List.map_eq_nil_iff.mp e3
        obtain rfl := ab_ref e2
        split at h
        · rename_i ys hl
          obtain ⟨rfl, h1, h2⟩ := h
          exact tx_domExtend T hx hl h1 h2
        · exact h.elim
      · exact h.elim
  · exact h.elim
end
end Csp

namespace Csp
open PySem PySem.W PySem.Calls PyProof.Rows PySem.SeqAt Builtin Builtin.ObjectAttr

section
variable {prog : Program} {w : World} {fs : List Env} {A : Around} {n : Nat}

theorem mC_over {k : Kinds} {scope : Scope} {xs : List String} (K : ScOk k scope xs) {m : Loc} (h0 : m ".0" = none) {q : String} (hq : q ∉ xs) : mC scope m q = m q := by
  unfold mC
  split
  · rename_i hk
    unfold kc at hk
    split at hk
    · cases hk
    · have := mem_lookup hk
      obtain ⟨x, hx, e⟩ := K.loc _ this
      obtain rfl := ofString_inj e
      rcases List.mem_cons.mp hx with rfl | hx
      · exact h0.symm
      · exact absurd hx hq
  · rfl

/-- one clause -/
theorem first1 {F : FF} {H : Hp} {env : Env} {m : Loc} (T : Stat fs w F) (R : Room fs A n) (I : FrIn env F m) {elt iter : Expr} {ifs : List Expr} {x : String} {px : Pos} {scope : Scope} {pos : Pos} {fin : Addr → Hp → Prop} (K : ScOk env.kindOf scope [x]) (hs : noSet iter = true)
    {eltP : AV → PT AV} {testP : AV → PT Bool}
    (hElt : ∀ cenv F' y Q H', (∀ q, cenv.kindOf q = kc scope q) → FrIn cenv F' (upL m x y) → Stat fs w F' → eltP y Q H' → TV prog w A F' cenv elt Q H')
    (hIfs : ∀ cenv F' y Q H', (∀ q, cenv.kindOf q = kc scope q) → FrIn cenv F' (upL m x y) → Stat fs w F' → testP y Q H' → TX prog w A F' (tests ifs cenv) Q H')
    (h : TV prog w A F env iter (fun v => fun H1 => match itemsOf H1 v with
      | some xs => m ".0" = none ∧ ∀ acc, Fresh H1 acc → compL (fun H' => sameSrc H1 H' v) eltP testP acc (fin acc) xs (upd H1 acc (.list []))
      | none => False) H) : TX prog w A F (eval iter env) (fun v H1 => ∃ xs, itemsOf H1 (ab v) = some xs ∧ ∀ acc ia o, Fresh H1 acc → H1 ia = none → F.k ia = none → ia ≠ 347 → ItAt H1 (ab v) xs 0 o → Loops prog w A F m (.ListComp elt [⟨.Name (Str.ofString x) px, iter, ifs, 0⟩] scope pos) scope acc ia o (upd H1 acc (.list [])) (fin acc)) H := by
  refine TX.mono h fun v H1 q => ?_
  dsimp only at q
  split at q
  · rename_i xs hxs
    obtain ⟨h0, q⟩ := q
    refine ⟨xs, hxs, fun acc ia o hacc hia hiaF h3 It => ?_⟩
    intro cenv F1 s hk hF1 FI B S hL
    have hkx : cenv.kindOf (Str.ofString x) = some .local := by
      rw [hk]; unfold kc; rw [K.has x (by simp)]
    refine comp_start (d := 0) (g := ⟨.Name (Str.ofString x) px, iter, ifs, 0⟩) rfl rfl It (S.keepX hF1 It.noFrame) rfl rfl (fun A => rfl) rfl ?_
    refine codeAny_mono (comp_last (F0 := F) (m := m) (d := 0) (elt := elt) (iter := iter) (ifs := ifs) (x := x) (px := px) (fin := fin acc) T R (by rfl) rfl rfl (fun A => rfl) hkx (fun F' y Q H' => hElt cenv F' y Q H' hk) (fun F' y Q H' => hIfs cenv F' y Q H' hk) h3 hiaF hL
      _ 0 F1 o (mC scope m) _ s rfl It hF1 FI (fun z => ?_) B S (q acc hacc)) fun r s' z => ?_
    · funext p
      unfold upL
      by_cases e : p = x
      · simp [e]
      · simp only [e, if_false]
        exact mC_over K h0 (by simpa using e)
    · obtain ⟨rfl, F', mm, H', a1, a2, a3, a4, a5⟩ := z
      exact ⟨rfl, F', mm, H', a1, a3, a4, a5⟩
  · exact q.elim

/-- one clause -/
theorem tv_comp1 {F : FF} {H : Hp} {env : Env} {m : Loc} (T : Stat fs w F) (R : Room fs A n) (I : FrIn env F m) {elt iter : Expr} {ifs : List Expr} {x : String} {px : Pos} {scope : Scope} {pos : Pos} {Q : AV → Hp → Prop} (K : ScOk env.kindOf scope [x]) (hs : noSet iter = true)
    {eltP : AV → PT AV} {testP : AV → PT Bool}
    (hElt : ∀ cenv F' y Q H', (∀ q, cenv.kindOf q = kc scope q) → FrIn cenv F' (upL m x y) → Stat fs w F' → eltP y Q H' → TV prog w A F' cenv elt Q H')
    (hIfs : ∀ cenv F' y Q H', (∀ q, cenv.kindOf q = kc scope q) → FrIn cenv F' (upL m x y) → Stat fs w F' → testP y Q H' → TX prog w A F' (tests ifs cenv) Q H')
    (h : TV prog w A F env iter (fun v => fun H1 => match itemsOf H1 v with
      | some xs => m ".0" = none ∧ ∀ acc, Fresh H1 acc → compL (fun H' => sameSrc H1 H' v) eltP testP acc (fun H' => Q (.ref acc) H') xs (upd H1 acc (.list []))
      | none => False) H) : TV prog w A F env (.ListComp elt [⟨.Name (Str.ofString x) px, iter, ifs, 0⟩] scope pos) Q H := by
  exact tx_comp rfl rfl rfl (noSet_of hs) K I T R (first1 (fin := fun acc H' => Q (.ref acc) H') T R I K hs hElt hIfs h)

theorem first2 {F : FF} {H : Hp} {env : Env} {m : Loc} (T : Stat fs w F) (R : Room fs A n) (I : FrIn env F m) {elt iter it2 : Expr} {ifs : List Expr} {x y : String} {px py : Pos} {scope : Scope} {pos : Pos} {fin : Addr → Hp → Prop} (K : ScOk env.kindOf scope [x, y]) (hs : noSet iter = true) (hs2 : noSet it2 = true) (hxy : y ≠ x)
    {it2P : AV → PT AV} {eltP : AV → AV → PT AV} {testP : AV → AV → PT Bool}
    (hIt2 : ∀ cenv F' a Q H', (∀ q, cenv.kindOf q = kc scope q) → FrIn cenv F' (upL m x a) → Stat fs w F' → it2P a Q H' → TV prog w A F' cenv it2 Q H')
    (hElt : ∀ cenv F' a b Q H', (∀ q, cenv.kindOf q = kc scope q) → FrIn cenv F' (upL (upL m x a) y b) → Stat fs w F' → eltP a b Q H' → TV prog w A F' cenv elt Q H')
    (hIfs : ∀ cenv F' a b Q H', (∀ q, cenv.kindOf q = kc scope q) → FrIn cenv F' (upL (upL m x a) y b) → Stat fs w F' → testP a b Q H' → TX prog w A F' (tests ifs cenv) Q H')
    (h : TV prog w A F env iter (fun v => fun H1 => match itemsOf H1 v with
      | some xs => (m ".0" = none ∧ m y = none) ∧ ∀ acc, Fresh H1 acc → compL2 (fun _ H' => sameSrc H1 H' v) it2P testP eltP acc (fin acc) xs (upd H1 acc (.list []))
      | none => False) H) : TX prog w A F (eval iter env) (fun v H1 => ∃ xs, itemsOf H1 (ab v) = some xs ∧ ∀ acc ia o, Fresh H1 acc → H1 ia = none → F.k ia = none → ia ≠ 347 → ItAt H1 (ab v) xs 0 o → Loops prog w A F m (.ListComp elt [⟨.Name (Str.ofString x) px, iter, [], 0⟩, ⟨.Name (Str.ofString y) py, it2, ifs, 0⟩] scope pos) scope acc ia o (upd H1 acc (.list [])) (fin acc)) H := by
  refine TX.mono h fun v H1 q => ?_
  dsimp only at q
  split at q
  · rename_i xs hxs
    obtain ⟨⟨h0, hy⟩, q⟩ := q
    refine ⟨xs, hxs, fun acc ia o hacc hia hiaF h3 It => ?_⟩
    intro cenv F1 s hk hF1 FI B S hL
    have hkx : cenv.kindOf (Str.ofString x) = some .local := by
      rw [hk]; unfold kc; rw [K.has x (by simp)]
    have hky : cenv.kindOf (Str.ofString y) = some .local := by
      rw [hk]; unfold kc; rw [K.has y (by simp)]
    refine comp_start (d := 0) (g := ⟨.Name (Str.ofString x) px, iter, [], 0⟩) rfl rfl It (S.keepX hF1 It.noFrame) rfl rfl (fun A => rfl) rfl ?_
    refine codeAny_mono (comp_first (F0 := F) (m := m) (x := x) (y := y) (px := px) (py := py) (fin := fin acc) T R rfl (noSet_of hs2) (fun _ _ => rfl) (fun _ _ => rfl) (fun _ _ _ => rfl) (fun _ _ => rfl) (fun _ _ _ => rfl) (fun _ _ => rfl) hkx hky hxy hy
      (fun F' a Q H' => hIt2 cenv F' a Q H' hk) (fun F' a b Q H' => hElt cenv F' a b Q H' hk) (fun F' a b Q H' => hIfs cenv F' a b Q H' hk) h3 hiaF hL
      _ 0 F1 o (mC scope m) _ s rfl It hF1 FI (fun p e1 e2 => mC_over K h0 (by simp [e1, e2])) B S (q acc hacc)) fun r s' z => ?_
    obtain ⟨rfl, F', mm, H', a1, a2, a3, a4⟩ := z
    exact ⟨rfl, F', mm, H', a1, a2, a3, a4⟩
  · exact q.elim

theorem tv_comp2 {F : FF} {H : Hp} {env : Env} {m : Loc} (T : Stat fs w F) (R : Room fs A n) (I : FrIn env F m) {elt iter it2 : Expr} {ifs : List Expr} {x y : String} {px py : Pos} {scope : Scope} {pos : Pos} {Q : AV → Hp → Prop} (K : ScOk env.kindOf scope [x, y]) (hs : noSet iter = true) (hs2 : noSet it2 = true) (hxy : y ≠ x)
    {it2P : AV → PT AV} {eltP : AV → AV → PT AV} {testP : AV → AV → PT Bool}
    (hIt2 : ∀ cenv F' a Q H', (∀ q, cenv.kindOf q = kc scope q) → FrIn cenv F' (upL m x a) → Stat fs w F' → it2P a Q H' → TV prog w A F' cenv it2 Q H')
    (hElt : ∀ cenv F' a b Q H', (∀ q, cenv.kindOf q = kc scope q) → FrIn cenv F' (upL (upL m x a) y b) → Stat fs w F' → eltP a b Q H' → TV prog w A F' cenv elt Q H')
    (hIfs : ∀ cenv F' a b Q H', (∀ q, cenv.kindOf q = kc scope q) → FrIn cenv F' (upL (upL m x a) y b) → Stat fs w F' → testP a b Q H' → TX prog w A F' (tests ifs cenv) Q H')
    (h : TV prog w A F env iter (fun v => fun H1 => match itemsOf H1 v with
      | some xs => (m ".0" = none ∧ m y = none) ∧ ∀ acc, Fresh H1 acc → compL2 (fun _ H' => sameSrc H1 H' v) it2P testP eltP acc (fun H' => Q (.ref acc) H') xs (upd H1 acc (.list []))
      | none => False) H) : TV prog w A F env (.ListComp elt [⟨.Name (Str.ofString x) px, iter, [], 0⟩, ⟨.Name (Str.ofString y) py, it2, ifs, 0⟩] scope pos) Q H := by
  exact tx_comp rfl rfl rfl (noSet_of hs) K I T R (first2 (fin := fun acc H' => Q (.ref acc) H') T R I K hs hs2 hxy hIt2 hElt hIfs h)

theorem tests_nil {F : FF} {H : Hp} {env : Env} {Q : Bool → Hp → Prop} (h : Q true H) : TX prog w A F (tests [] env) Q H := TX.pure h
theorem tests_cons {F : FF} {H : Hp} {env : Env} {c : Expr} {r : List Expr} {Q : Bool → Hp → Prop} (h : TB prog w A F env c (fun b => if b then (fun H1 => TX prog w A F (tests r env) Q H1) else Q false) H) : TX prog w A F (tests (c :: r) env) Q H := by
  unfold tests
  simp only [List.forIn_cons, if_true]
  refine TX.bind (TX.bind (TX.mono h fun b H1 q => TX.pure ?_))
  cases b
  · dsimp only at q ⊢
    rw [if_neg (by decide)] at q
    have : ∀ l : List Expr, TX prog w A F (forIn l false fun c r => if r = true then do let ok ← isTrue c env (eval c env); pure (ForInStep.yield ok) else pure (ForInStep.yield r)) Q H1 := by
      intro l
      induction l with
      | nil => exact TX.pure q
      | cons a l ih =>
        simp only [List.forIn_cons, Bool.false_eq_true, if_false]
        exact TX.bind (TX.pure ih)
    exact this r
  · exact q

theorem truthP_mono {v : AV} {Q Q' : Bool → Hp → Prop} {H : Hp} (hq : ∀ b H, Q b H → Q' b H) (h : truthP v Q H) : truthP v Q' H := by
  unfold truthP at h ⊢
  split at h
  · exact hq _ _ h
  · exact hq _ _ h
  · exact hq _ _ h
  · split at h
    · exact hq _ _ h
    · exact ⟨h.1, hq _ _ h.2⟩
    · exact hq _ _ h
    · exact ⟨h.1, hq _ _ h.2⟩
    · exact h.elim
  · exact h.elim
theorem gl_true {k : Kinds} {x : String} {f : Expr} {xs : List Expr} {pos : Pos} {env : Env} (h : gl k x f = true) : isTrue (.Call f xs [] pos) env (eval (.Call f xs [] pos) env) = (eval (.Call f xs [] pos) env >>= fun v => standAt (Expr.Call f xs [] pos).pos >>= fun _ => holding [v] (truthy v)) := rfl

mutual
theorem soundX (R : Room fs A n) : ∀ (x : E) (k : Kinds) (e : Expr) (m : Loc) (env : Env) (F : FF), simE x k e = true → (∀ q, env.kindOf q = k q) → FrIn env F m → Stat fs w F → BX prog w n A F m env x e
  | .loc x, k, e, m, env, F, hs, hk, I, T => by
    unfold simE at hs
    split at hs
    · rw [Bool.and_eq_true, beq_iff_eq] at hs
      obtain ⟨rfl, hs⟩ := hs
      obtain ⟨h1, h2⟩ := lcOk_of hs
      refine both T R rfl fun Q H h => ?_
      have h : (match m x with | some v => Q v H | none => False) := h
      split at h
      · rename_i v hv
        exact tx_local I (by rw [hk]; exact h1) h2 hv h
      · exact h.elim
    · cases hs
  | .lit v, k, e, m, env, F, hs, hk, I, T => by
    unfold simE at hs
    exact both T R (lit_true hs) fun Q H h => tv_lit hs hk I T h
  | .attr o nm, k, e, m, env, F, hs, hk, I, T => by
    unfold simE at hs
    split at hs
    · simp only [Bool.and_eq_true, beq_iff_eq] at hs
      obtain ⟨⟨⟨rfl, h1⟩, h2⟩, h3⟩ := hs
      have ih := soundX R o k _ m env F h3 hk I T
      exact both T R rfl fun Q H h => tv_attr T h1 h2 (ih.1 _ _ h)
    · cases hs
  | .idx o i, k, e, m, env, F, hs, hk, I, T => by
    unfold simE at hs
    split at hs
    · simp only [Bool.and_eq_true] at hs
      obtain ⟨⟨h1, h2⟩, h3⟩ := hs
      have ih := soundX R o k _ m env F h2 hk I T
      have ih2 := soundX R i k _ m env F h3 hk I T
      exact both T R rfl fun Q H h => tv_idx T R (noSlice_sub h1) (TX.mono (ih.1 _ _ h) fun v H1 q => ih2.1 _ _ q)
    · cases hs
  | .full o, k, e, m, env, F, hs, hk, I, T => by
    unfold simE at hs
    split at hs
    · have ih := soundX R o k _ m env F hs hk I T
      exact both T R rfl fun Q H h => tv_full T R (ih.1 _ _ h)
    · cases hs
  | .tail o i, k, e, m, env, F, hs, hk, I, T => by
    unfold simE at hs
    split at hs
    · simp only [Bool.and_eq_true] at hs
      have ih := soundX R o k _ m env F hs.1 hk I T
      have ih2 := soundX R i k _ m env F hs.2 hk I T
      exact both T R rfl fun Q H h => tv_tail T R (TX.mono (ih.1 _ _ h) fun v H1 q => ih2.1 _ _ q)
    · cases hs
  | .bin op a b, k, e, m, env, F, hs, hk, I, T => by
    unfold simE at hs
    split at hs
    · simp only [Bool.and_eq_true, beq_iff_eq] at hs
      obtain ⟨⟨rfl, h1⟩, h2⟩ := hs
      have ih := soundX R a k _ m env F h1 hk I T
      have ih2 := soundX R b k _ m env F h2 hk I T
      exact both T R rfl fun Q H h => tv_bin (TX.mono (ih.1 _ _ h) fun v H1 q => ih2.1 _ _ q)
    · cases hs
  | .neg a, k, e, m, env, F, hs, hk, I, T => by
    unfold simE at hs
    split at hs
    · have ih := soundX R a k _ m env F hs hk I T
      exact both T R rfl fun Q H h => tv_neg (ih.1 _ _ h)
    · cases hs
  | .not a, k, e, m, env, F, hs, hk, I, T => by
    unfold simE at hs
    split at hs
    · have ih := soundX R a k _ m env F hs hk I T
      exact ⟨fun Q H h => tv_not T R (ih.1 _ _ h), fun Q H h => tb_not (ih.2 _ _ h)⟩
    · cases hs
  | .and2 a b, k, e, m, env, F, hs, hk, I, T => by
    unfold simE at hs
    split at hs
    · simp only [Bool.and_eq_true] at hs
      have ih := soundX R a k _ m env F hs.1 hk I T
      have ih2 := soundX R b k _ m env F hs.2 hk I T
      refine ⟨fun Q H h => tv_bool2 T R (TX.mono (ih.1 _ _ h) fun v H1 q => ?_), fun Q H h => tb_bool2 (TX.mono (ih.2 _ _ h) fun t H1 q => ?_)⟩
      · refine truthP_mono ?_ q
        intro t H2 q
        cases t
        · exact q
        · exact ih2.1 _ _ q
      · cases t
        · exact q
        · exact ih2.2 _ _ q
    · cases hs
  | .or2 a b, k, e, m, env, F, hs, hk, I, T => by
    unfold simE at hs
    split at hs
    · simp only [Bool.and_eq_true] at hs
      have ih := soundX R a k _ m env F hs.1 hk I T
      have ih2 := soundX R b k _ m env F hs.2 hk I T
      refine ⟨fun Q H h => tv_bool2 T R (TX.mono (ih.1 _ _ h) fun v H1 q => ?_), fun Q H h => tb_bool2 (TX.mono (ih.2 _ _ h) fun t H1 q => ?_)⟩
      · refine truthP_mono ?_ q
        intro t H2 q
        cases t
        · exact ih2.1 _ _ q
        · exact q
      · cases t
        · exact ih2.2 _ _ q
        · exact q
    · cases hs
  | .cmp op a b, k, e, m, env, F, hs, hk, I, T => by
    unfold simE at hs
    split at hs
    · simp only [Bool.and_eq_true, beq_iff_eq, Bool.not_eq_true'] at hs
      obtain ⟨⟨⟨rfl, h0⟩, h1⟩, h2⟩ := hs
      have ih := soundX R a k _ m env F h1 hk I T
      have ih2 := soundX R b k _ m env F h2 hk I T
      exact ⟨fun Q H h => tv_cmp T R h0 (TX.mono (ih.1 _ _ h) fun v H1 q => ih2.1 _ _ q), fun Q H h => tb_cmp T R h0 (TX.mono (ih.1 _ _ h) fun v H1 q => ih2.1 _ _ q)⟩
    · cases hs
  | .ite c a b, k, e, m, env, F, hs, hk, I, T => by
    unfold simE at hs
    split at hs
    · simp only [Bool.and_eq_true] at hs
      have ihc := soundX R c k _ m env F hs.1.1 hk I T
      have iha := soundX R a k _ m env F hs.1.2 hk I T
      have ihb := soundX R b k _ m env F hs.2 hk I T
      refine ⟨fun Q H h => tv_ite (TX.mono (ihc.2 _ _ h) fun t H1 q => ?_), fun Q H h => tb_ite (TX.mono (ihc.2 _ _ h) fun t H1 q => ?_)⟩
      · cases t
        · exact ihb.1 _ _ q
        · exact iha.1 _ _ q
      · cases t
        · exact ihb.2 _ _ q
        · exact iha.2 _ _ q
    · cases hs
  | .list es, k, e, m, env, F, hs, hk, I, T => by
    unfold simE at hs
    split at hs
    · rw [Bool.and_eq_true] at hs
      have ih := soundL R es k _ m env F hs.2 hk I T
      exact both T R rfl fun Q H h => tv_list (ih.2 _ _ h)
    · cases hs
  | .tup es, k, e, m, env, F, hs, hk, I, T => by
    unfold simE at hs
    split at hs
    · rw [Bool.and_eq_true] at hs
      have ih := soundL R es k _ m env F hs.2 hk I T
      exact both T R rfl fun Q H h => tv_tup (ih.2 _ _ h)
    · cases hs
  | .dict0, k, e, m, env, F, hs, hk, I, T => by
    unfold simE at hs
    split at hs
    · exact both T R rfl fun Q H h => tv_dict0 h
    · cases hs
  | .dict1 a b, k, e, m, env, F, hs, hk, I, T => by
    unfold simE at hs
    split at hs
    · rw [Bool.and_eq_true] at hs
      refine both T R rfl fun Q H h => tv_dict1 fun F' hF ho hsa => ?_
      have ih := soundX R a k _ m env F' hs.1 hk (I.mono hF ho) (T.mono hF ho)
      have ih2 := soundX R b k _ m env F' hs.2 hk (I.mono hF ho) (T.mono hF ho)
      exact TX.mono (ih.1 _ _ h) fun v H1 q => ih2.1 _ _ q
    · cases hs
  | .call f es, k, e, m, env, F, hs, hk, I, T => by
    unfold simE at hs
    split at hs
    · cases hs
    · rename_i hne
      rw [Bool.and_eq_true] at hs
      have ih := soundX R f k _ m env F hs.1 hk I T
      have ih2 := soundL R es k _ m env F hs.2 hk I T
      refine both T R (by rename_i f' _ _ _; cases f' <;> first | rfl | exact (hne _ _ _ rfl).elim) fun Q H h => tv_call R (fun o a p e => by subst e; exact hne _ _ _ rfl) ih2.1 (TX.mono (ih.1 _ _ h) fun g H1 q => ?_)
      intro pos
      refine TX.mono (ih2.2 _ _ q pos) fun vs H2 z => ?_
      refine ⟨fun gv e => kept_of T (by rw [e]; exact z.1), fun gv vv e1 e2 => ?_⟩
      exact z.2.tx R T e1 e2
    · cases hs
  | .meth o nm es, k, e, m, env, F, hs, hk, I, T => by
    unfold simE at hs
    split at hs
    · simp only [Bool.and_eq_true, beq_iff_eq, decide_eq_true_eq] at hs
      obtain ⟨⟨⟨⟨⟨rfl, h1⟩, h2⟩, h3⟩, h4⟩, h5⟩ := hs
      have ih := soundX R o k _ m env F h4 hk I T
      have ih2 := soundL R es k _ m env F h5 hk I T
      refine both T R rfl fun Q H h => tv_meth T h1 ih2.1 h2 (by simp [h3]) (TX.mono (ih.1 _ _ h) fun ov H1 q => ?_)
      split at q
      · rename_i f hm
        refine ⟨_, hm, fun ovv p e1 e2 pos => TX.mono (ih2.2 _ _ q pos) fun vs H2 z => ⟨kept_me T (by rw [e1]; exact hm) e2 H2, fun vv e3 => ?_⟩⟩
        obtain rfl : p = (.ref f, [ovv]) := e2
        exact CX.tx z R T rfl (by rw [← e3, ← e1]; rfl)
      · rename_i b hm
        refine ⟨_, hm, fun ovv p e1 e2 pos => TX.mono (ih2.2 _ _ q pos) fun vs H2 z => ⟨kept_me T (by rw [e1]; exact hm) e2 H2, fun vv e3 => ?_⟩⟩
        obtain rfl : p = (.builtin b.idOf, [ovv]) := e2
        exact tx_biMeth T (by rw [e1, e3]; exact z)
      · rename_i f hm
        refine ⟨_, hm, fun ovv p e1 e2 pos => TX.mono (ih2.2 _ _ q pos) fun vs H2 z => ⟨kept_me T (by rw [e1]; exact hm) e2 H2, fun vv e3 => ?_⟩⟩
        obtain rfl : p = (.ref f, []) := e2
        exact CX.tx z R T rfl e3
      · rename_i id hm
        refine ⟨_, hm, fun ovv p e1 e2 pos => TX.mono (ih2.2 _ _ q pos) fun vs H2 z => ⟨kept_me T (by rw [e1]; exact hm) e2 H2, fun vv e3 => ?_⟩⟩
        obtain rfl : p = (.builtin id, [ovv]) := e2
        exact CX.tx z R T rfl (by rw [← e3, ← e1]; rfl)
      · rename_i hm
        refine ⟨_, hm, fun ovv p e1 e2 pos => TX.mono (ih2.2 _ _ q pos) fun vs H2 z => ⟨kept_me T (by rw [e1]; exact hm) e2 H2, fun vv e3 => ?_⟩⟩
        obtain rfl : p = (.builtin "list.__init__", []) := e2
        exact tx_linit (vv := vv) T (by rw [e3]; exact z)
      · exact q.elim
    · cases hs
  | .bi b es, k, e, m, env, F, hs, hk, I, T => by
    unfold simE at hs
    split at hs
    · rename_i f xs pos
      cases b with
      | len =>
        dsimp only at hs
        rw [Bool.and_eq_true] at hs
        have ih2 := soundL R es k _ m env F hs.2 hk I T
        exact both T R (gl_true hs.1) fun Q H h => tv_biN T R I hk hs.1 (by simp [btab]) ih2.1 (fun _ => kept_bi) (fun vv H2 _ z => bi_len T R z) (ih2.2 _ _ h)
      | list =>
        dsimp only at hs
        rw [Bool.and_eq_true] at hs
        have ih2 := soundL R es k _ m env F hs.2 hk I T
        exact both T R (gl_true hs.1) fun Q H h => tv_biN T R I hk hs.1 (by simp [btab]) ih2.1 (fun _ => kept_type) (fun vv H2 _ z => bi_list T R z) (ih2.2 _ _ h)
      | range =>
        dsimp only at hs
        simp only [Bool.and_eq_true] at hs
        have ih2 := soundL R es k _ m env F hs.1.2 hk I T
        exact both T R (gl_true hs.1.1) fun Q H h => tv_biN T R I hk hs.1.1 (by simp [btab]) ih2.1 (fun _ => kept_type) (fun vv H2 _ z => bi_range z) (ih2.2 _ _ h)
      | range2 =>
        dsimp only at hs
        simp only [Bool.and_eq_true] at hs
        have ih2 := soundL R es k _ m env F hs.1.2 hk I T
        exact both T R (gl_true hs.1.1) fun Q H h => tv_biN T R I hk hs.1.1 (by simp [btab]) ih2.1 (fun _ => kept_type) (fun vv H2 _ z => bi_range2 z) (ih2.2 _ _ h)
      | isLT =>
        dsimp only at hs
        rw [Bool.and_eq_true] at hs
        obtain ⟨h1, hs⟩ := hs
        split at hs
        · simp only [Bool.and_eq_true] at hs
          obtain ⟨⟨h2, h3⟩, h4⟩ := hs
          have ih2 := soundL1 R es k _ m env F h4 hk I T
          exact both T R (gl_true h1) fun Q H h => tv_isLT T R I hk h1 h2 h3 ih2.1 (ih2.2 _ _ _ h (fun v => rfl))
        · cases hs
      | isCon =>
        dsimp only at hs
        rw [Bool.and_eq_true] at hs
        obtain ⟨h1, hs⟩ := hs
        split at hs
        · simp only [Bool.and_eq_true] at hs
          have ih2 := soundL1 R es k _ m env F hs.2 hk I T
          exact both T R (gl_true h1) fun Q H h => tv_isCon T R I hk h1 hs.1 ih2.1 (ih2.2 _ _ _ h (fun v => rfl))
        · cases hs
      | lenset =>
        dsimp only at hs
        rw [Bool.and_eq_true] at hs
        obtain ⟨h1, hs⟩ := hs
        split at hs
        · simp only [Bool.and_eq_true] at hs
          have ih2 := soundL1 R es k _ m env F hs.2 hk I T
          exact both T R (gl_true h1) fun Q H h => tv_lenset T R I hk h1 hs.1 ih2.1 (ih2.2 _ _ _ h (fun v => rfl))
        · cases hs
    · cases hs
  | .comp elt x it ifs, k, e, m, env, F, hs, hk, I, T => by
    unfold simE at hs
    split at hs
    · simp only [Bool.and_eq_true, beq_iff_eq] at hs
      obtain ⟨⟨⟨⟨⟨⟨rfl, rfl⟩, h1⟩, h2⟩, h3⟩, h4⟩, h5⟩ := hs
      have K : ScOk env.kindOf _ [x] := scOk_of (by rw [show env.kindOf = k from funext hk]; exact h2)
      have ih := soundX R it k _ m env F h3 hk I T
      refine both T R rfl fun Q H h => tv_comp1 T R I K h1 (eltP := fun y => (semX (CX prog w n) (upL m x y) elt).v) (testP := fun y => semTs (CX prog w n) (upL m x y) ifs)
        (fun cenv F' y Q H' hk' I' T' q => (soundX R elt _ _ _ cenv F' h4 hk' I' T').1 _ _ q) (fun cenv F' y Q H' hk' I' T' q => soundT R ifs _ _ _ cenv F' h5 hk' I' T' _ _ q) (ih.1 _ _ h)
    · cases hs
  | .comp2 elt x it y it2 c, k, e, m, env, F, hs, hk, I, T => by
    unfold simE at hs
    split at hs
    · simp only [Bool.and_eq_true, beq_iff_eq, bne_iff_ne] at hs
      obtain ⟨⟨⟨⟨⟨⟨⟨⟨⟨⟨⟨rfl, rfl⟩, rfl⟩, rfl⟩, hxy⟩, h1⟩, h1'⟩, h2⟩, h3⟩, h4⟩, h5⟩, h6⟩ := hs
      have K : ScOk env.kindOf _ [x, y] := scOk_of (by rw [show env.kindOf = k from funext hk]; exact h2)
      have ih := soundX R it k _ m env F h3 hk I T
      refine both T R rfl fun Q H h => tv_comp2 T R I K h1 h1' hxy (it2P := fun a => (semX (CX prog w n) (upL m x a) it2).v) (testP := fun a b => (semX (CX prog w n) (upL (upL m x a) y b) c).t) (eltP := fun a b => (semX (CX prog w n) (upL (upL m x a) y b) elt).v)
        (fun cenv F' a Q H' hk' I' T' q => (soundX R it2 _ _ _ cenv F' h4 hk' I' T').1 _ _ q) (fun cenv F' a b Q H' hk' I' T' q => (soundX R elt _ _ _ cenv F' h5 hk' I' T').1 _ _ q)
        (fun cenv F' a b Q H' hk' I' T' q => tests_cons (TX.mono ((soundX R c _ _ _ cenv F' h6 hk' I' T').2 _ _ q) fun t H1 z => by cases t <;> first | exact z | exact tests_nil z)) (ih.1 _ _ h)
    · cases hs
theorem soundL (R : Room fs A n) : ∀ (es : EL) (k : Kinds) (xs : List Expr) (m : Loc) (env : Env) (F : FF), simL es k xs = true → (∀ q, env.kindOf q = k q) → FrIn env F m → Stat fs w F → plainL xs = true ∧ ∀ Q H, semL (CX prog w n) m es Q H → TL prog w A F env xs Q H
  | .nil, k, xs, m, env, F, hs, hk, I, T => by
    unfold simL at hs
    obtain rfl : xs = [] := by simpa using hs
    exact ⟨rfl, fun Q H h => tl_nil h⟩
  | .cons a r, k, xs, m, env, F, hs, hk, I, T => by
    unfold simL at hs
    split at hs
    · simp only [Bool.and_eq_true] at hs
      have ih := soundX R a k _ m env F hs.1.2 hk I T
      have ih2 := soundL R r k _ m env F hs.2 hk I T
      exact ⟨by unfold plainL; rw [hs.1.1, ih2.1]; rfl, fun Q H h => tl_cons hs.1.1 (TX.mono (ih.1 _ _ h) fun v H1 q => ih2.2 _ _ q)⟩
    · cases hs
theorem soundL1 (R : Room fs A n) : ∀ (es : EL) (k : Kinds) (x : Expr) (m : Loc) (env : Env) (F : FF), simL es k [x] = true → (∀ q, env.kindOf q = k q) → FrIn env F m → Stat fs w F → noStar x = true ∧ ∀ (P : List AV → Hp → Prop) (Q : AV → Hp → Prop) H, semL (CX prog w n) m es P H → (∀ v, P [v] = Q v) → TV prog w A F env x Q H
  | .nil, k, x, m, env, F, hs, hk, I, T => by
    unfold simL at hs
    cases hs
  | .cons a r, k, x, m, env, F, hs, hk, I, T => by
    unfold simL at hs
    simp only [Bool.and_eq_true] at hs
    have ih := soundX R a k _ m env F hs.1.2 hk I T
    cases r with
    | nil => exact ⟨hs.1.1, fun P Q H h e => TX.mono (ih.1 _ _ h) fun v H1 q => by rw [← e]; exact q⟩
    | cons b r => have := hs.2; unfold simL at this; cases this
theorem soundT (R : Room fs A n) : ∀ (es : EL) (k : Kinds) (xs : List Expr) (m : Loc) (env : Env) (F : FF), simL es k xs = true → (∀ q, env.kindOf q = k q) → FrIn env F m → Stat fs w F → ∀ Q H, semTs (CX prog w n) m es Q H → TX prog w A F (tests xs env) Q H
  | .nil, k, xs, m, env, F, hs, hk, I, T => by
    unfold simL at hs
    obtain rfl : xs = [] := by simpa using hs
    exact fun Q H h => tests_nil h
  | .cons a r, k, xs, m, env, F, hs, hk, I, T => by
    unfold simL at hs
    split at hs
    · simp only [Bool.and_eq_true] at hs
      have ih := soundX R a k _ m env F hs.1.2 hk I T
      have ih2 := soundT R r k _ m env F hs.2 hk I T
      intro Q H h
      refine tests_cons (TX.mono (ih.2 _ _ h) fun b H1 q => ?_)
      cases b
      · exact q
      · exact ih2 _ _ q
    · cases hs
end
end
end Csp

namespace Csp
open PySem PySem.W PySem.Calls PyProof.Rows PySem.SeqAt Builtin Builtin.ObjectAttr

def flA : Flow → Fl
  | .next => .next
  | .brk => .brk
  | .cont => .cont
  | .ret v => .ret (ab v)

section
variable {prog : Program} {w : World} {fs : List Env} {A : Around} {F F0 : FF} {H : Hp} {s : Shared} {n : Nat} {env : Env} {m : Loc}

/-- what a statement leaves -/
def Left (prog : Program) (w : World) (F0 : FF) (env : Env) (Q : Fl → Loc → Hp → Prop) (f : Fl) (s' : Shared) : Prop :=
  ∃ F' m' H', FrIn env F' m' ∧ Base env F0 F' ∧ St prog w F' H' s' ∧ Q f m' H'
/-- a statement over the frame's names -/
def SX (prog : Program) (w : World) (A : Around) (F0 : FF) (env : Env) (t : Sem Flow) (Q : Fl → Loc → Hp → Prop) (m : Loc) (H : Hp) : Prop :=
  ∀ F s, FrIn env F m → Base env F0 F → St prog w F H s → wpAny (model prog w) A t (fun f s' => Left prog w F0 env Q (flA f) s') (fun _ _ => False) s
/-- the like, for what gives nothing -/
def SU (prog : Program) (w : World) (A : Around) (F0 : FF) (env : Env) (t : Sem Unit) (Q : Loc → Hp → Prop) (m : Loc) (H : Hp) : Prop :=
  ∀ F s, FrIn env F m → Base env F0 F → St prog w F H s → wpAny (model prog w) A t (fun _ s' => Left prog w F0 env (fun _ => Q) .next s') (fun _ _ => False) s

/-- what is known of the top and of the frames, wherever the frame's own names stand -/
def StatB (fs : List Env) (w : World) (env : Env) (F0 : FF) : Prop := ∀ F m, FrIn env F m → Base env F0 F → Stat fs w F

theorem stOk_of {k : Kinds} {x : String} (hk : ∀ q, env.kindOf q = k q) (BC : BaseC env F0) (h : stOk k x = true) : env.kindOf (Str.ofString x) = some .local ∨ (env.kindOf (Str.ofString x) = some .cell ∧ BaseC env F0) := by
  unfold stOk at h
  simp only [Bool.or_eq_true, beq_iff_eq] at h
  rw [hk]
  exact h.elim .inl fun h => .inr ⟨h, BC⟩

theorem sx_nil {Q : Fl → Loc → Hp → Prop} (h : Q .next m H) : SX prog w A F0 env (execs [] env) Q m H := fun F s I B S => wpAny_execs_nil ⟨F, m, H, I, B, S, h⟩
theorem sx_cons {st : Stmt} {r : List Stmt} {Q : Fl → Loc → Hp → Prop} (h : SX prog w A F0 env (exec st env) (fun fl m' H' => match fl with | .next => SX prog w A F0 env (execs r env) Q m' H' | fl => Q fl m' H') m H) : SX prog w A F0 env (execs (st :: r) env) Q m H := by
  intro F s I B S
  refine wpAny_execs_cons (wpAny_mono (h F s I B S) (fun f s' z => ?_) fun _ _ z => z)
  obtain ⟨F', m', H', I', B', S', q⟩ := z
  cases f
  · exact q F' s' I' B' S'
  · exact ⟨F', m', H', I', B', S', q⟩
  · exact ⟨F', m', H', I', B', S', q⟩
  · exact ⟨F', m', H', I', B', S', q⟩

theorem no_inter (I : FrIn env F m) : interactive env = false := by unfold interactive; rw [I.kind]; rfl
theorem sw_false {v : Expr} {t : Option Expr} {l : Nat} (h : isListComp v = false) : swapsWith v t l env = pure false := by
  cases v <;> first | rfl | cases h

theorem sx_expr {e : Expr} {pos : Pos} {Q : Fl → Loc → Hp → Prop} (hc : isListComp e = false) (h : ∀ F, FrIn env F m → Base env F0 F → TV prog w A F env e (fun _ => Q .next m) H) : SX prog w A F0 env (exec (.Expr e pos) env) Q m H := by
  intro F s I B S
  refine wpAny_Expr_any (wpAny_mono (h F I B s S) (fun v s' z => ?_) fun _ _ z => z) (no_inter I) (sw_false hc)
  obtain ⟨H', S', q⟩ := z
  exact ⟨F, m, H', I, B, S', q⟩

theorem sx_assign {x : String} {p pos : Pos} {e : Expr} {Q : Fl → Loc → Hp → Prop} (hst : env.kindOf (Str.ofString x) = some .local ∨ (env.kindOf (Str.ofString x) = some .cell ∧ BaseC env F0)) (hsw : swapsWith e (some (.Name (Str.ofString x) p)) pos.line env = pure false)
    (h : ∀ F, FrIn env F m → Base env F0 F → TV prog w A F env e (fun v => Q .next (upL m x v)) H) : SX prog w A F0 env (exec (.Assign [.Name (Str.ofString x) p] e pos) env) Q m H := by
  intro F s I B S
  refine wpAny_Assign_Name (wpAny_mono (h F I B s S) (fun v s' z => ?_) fun _ _ z => z) hsw
  obtain ⟨H', S', q⟩ := z
  exact tx_store I B S' hst fun F2 s2 I2 B2 S2 => ⟨F2, _, H', I2, B2, S2, q⟩

theorem sx_ret {e : Expr} {pos : Pos} {Q : Fl → Loc → Hp → Prop} (h : ∀ F, FrIn env F m → Base env F0 F → TV prog w A F env e (fun v => Q (.ret v) m) H) : SX prog w A F0 env (exec (.Return (some e) pos) env) Q m H := by
  intro F s I B S
  refine wpAny_Return_some (wpAny_mono (h F I B s S) (fun v s' z => ?_) fun _ _ z => z)
  obtain ⟨H', S', q⟩ := z
  exact ⟨F, m, H', I, B, S', q⟩

theorem sx_if {c : Expr} {a b : List Stmt} {pos : Pos} {Q : Fl → Loc → Hp → Prop} (h : ∀ F, FrIn env F m → Base env F0 F → TB prog w A F env c (fun t H1 => if t then SX prog w A F0 env (execs a env) Q m H1 else SX prog w A F0 env (execs b env) Q m H1) H) : SX prog w A F0 env (exec (.If c a b pos) env) Q m H := by
  intro F s I B S
  refine wpAny_If (wpAny_mono (h F I B s S) (fun t s' z => ?_) fun _ _ z => z)
  obtain ⟨H', S', q⟩ := z
  cases t
  · exact q F s' I B S'
  · exact q F s' I B S'

theorem sx_brk {pos : Pos} {Q : Fl → Loc → Hp → Prop} (h : Q .brk m H) : SX prog w A F0 env (exec (.Break pos) env) Q m H := fun F s I B S => 
  wpAny_bind (m := standAt pos) (wpAny_standAt (wpAny_pure ⟨F, m, H, I, B, S, h⟩))

theorem sx_aug {x : String} {p pos : Pos} {op : Operator} {e : Expr} {a : AV} {Q : Fl → Loc → Hp → Prop} (hk : env.kindOf (Str.ofString x) = some .local ∨ (env.kindOf (Str.ofString x) = some .cell ∧ BaseC env F0)) (hm : m x = some a)
    (h : ∀ F, FrIn env F m → Base env F0 F → TV prog w A F env e (fun b => augP op a b fun v => Q .next (upL m x v)) H) : SX prog w A F0 env (exec (.AugAssign (.Name (Str.ofString x) p) op e pos) env) Q m H := by
  intro F s I B S
  refine wpAny_AugAssign_Name (wpAny_mono (tx_loadLocal (Q := fun v H' => v = a ∧ H' = H) I (hk.imp_right And.left) hm ⟨rfl, rfl⟩ s S) (fun old s1 z => ?_) fun _ _ z => z)
  obtain ⟨H1, S1, e1, e2⟩ := z
  rw [e2] at S1
  refine wpAny_mono (h F I B s1 S1) (fun v s2 z => ?_) fun _ _ z => z
  obtain ⟨H2, S2, q⟩ := z
  rw [← e1] at q
  refine wpAny_mono (tx_aug q s2 S2) (fun r s3 z => ?_) fun _ _ z => z
  obtain ⟨H3, S3, q⟩ := z
  exact tx_store I B S3 hk fun F2 s4 I2 B2 S4 => ⟨F2, _, H3, I2, B2, S4, q⟩

theorem sx_while {c : Expr} {a b : List Stmt} {pos : Pos} {Q : Fl → Loc → Hp → Prop} {cP : Loc → PT Bool} {aP bP : ST}
    (hc : ∀ F m H Q, FrIn env F m → Base env F0 F → cP m Q H → TB prog w A F env c Q H) (ha : ∀ m H Q, aP Q m H → SX prog w A F0 env (execs a env) Q m H) (hb : ∀ m H Q, bP Q m H → SX prog w A F0 env (execs b env) Q m H)
    (h : ∃ k, whlN cP aP bP Q k m H) : SX prog w A F0 env (exec (.While c a b pos) env) Q m H := by
  intro F s I B S
  obtain ⟨k, h⟩ := h
  refine wpAny_While (codeAny_mono (R := fun r s' => ∃ f, r = .ok f ∧ Left prog w F0 env Q (flA f) s') ?_ fun r s' z => by obtain ⟨f, rfl, z⟩ := z; exact z)
  refine codeAny_whileLoop (fun k s => ∃ F m H, FrIn env F m ∧ Base env F0 F ∧ St prog w F H s ∧ whlN cP aP bP Q k m H) ?_ k ⟨F, m, H, I, B, S, h⟩
  rintro k s ⟨F, m, H, I, B, S, h⟩
  cases k with
  | zero => exact h.elim
  | succ k =>
    refine wpAny_mono (hc F m H _ I B h s S) (fun t s1 z => ?_) fun _ _ z => z.elim
    obtain ⟨H1, S1, q⟩ := z
    cases t
    · exact wpAny_mono (hb m H1 _ q F s1 I B S1) (fun f s2 z => ⟨f, rfl, z⟩) fun _ _ z => z.elim
    · refine wpAny_mono (ha m H1 _ q F s1 I B S1) (fun f s2 z => ?_) fun _ _ z => z.elim
      obtain ⟨F2, m2, H2, I2, B2, S2, q2⟩ := z
      cases f
      · exact ⟨k, Nat.lt_succ_self k, F2, m2, H2, I2, B2, S2, q2⟩
      · exact ⟨.next, rfl, F2, m2, H2, I2, B2, S2, q2⟩
      · exact ⟨k, Nat.lt_succ_self k, F2, m2, H2, I2, B2, S2, q2⟩
      · exact ⟨_, rfl, F2, m2, H2, I2, B2, S2, q2⟩

/-! targets -/
theorem letOwned {t : Expr} {ia : Addr} {v : Value} {Hs : Hp} {sv : AV} {xs : List AV} {i : Nat} {o : Obj} (It : ItAt Hs sv xs i o) (ho : s.heap.get? ia = some o) {Q : Unit → Shared → Prop} {E : Value → Shared → Prop} (h : Q () s) : wpAny (model prog w) A (letOwnedTupleGo t (.ref ia) v) Q E s := by
  have key : ∀ a : Addr, wpAny (model prog w) A (do
      let o ← load ia
      match o.cls, o.data with
      | .type n, .fields vs =>
        if ["enumerate", "zip", "dict_itemiterator", "dict_reverseitemiterator", "odict_iterator", "itertools.zip_longest", "itertools.pairwise"].contains n && vs[0]? == some (rawInt a) then
          rule "for.unpacks-the-owned-tuple"
          updateField ia 0 .none
      | _, _ => pure ()) Q E s := by
    intro a
    refine wpAny_bind (wpAny_load ho ?_)
    cases It with
    | list _ l => rw [l.cls, l.data]; exact wpAny_pure h
    | dom _ l => rw [l.cls, l.data]; exact wpAny_pure h
    | dict _ hc hd => rw [hc, hd]; exact wpAny_pure h
    | range _ e => subst e; exact wpAny_pure h
    | vals _ _ hc hd => rw [hc, hd]; exact wpAny_pure h
  cases t with
  | Tuple es k p => cases v with
    | ref a => exact key a
    | _ => exact wpAny_pure h
  | List es p => cases v with
    | ref a => exact key a
    | _ => exact wpAny_pure h
  | _ => exact wpAny_pure h

theorem inOrder {k : Kinds} (hk : ∀ q, env.kindOf q = k q) (BC : BaseC env F0) : ∀ (xs : List String) (es : List Expr) (vs : List Value) (F : FF) (m : Loc) (H : Hp) (s : Shared) (Q : Loc → Hp → Prop), tgtOk k xs es = true → vs.length = xs.length → FrIn env F m → Base env F0 F → St prog w F H s →
    Q ((xs.zip (vs.map ab)).foldl (fun m p => upL m p.1 p.2) m) H → wpAny (model prog w) A (assignInOrder ((assignEach es env).map (·.2)) vs) (fun _ s' => Left prog w F0 env (fun _ => Q) .next s') (fun _ _ => False) s
  | [], es, vs, F, m, H, s, Q, ht, hl, I, B, S, q => by
    cases es with
    | nil => 
      obtain rfl : vs = [] := List.length_eq_zero_iff.mp hl
      exact wpAny_pure ⟨F, m, H, I, B, S, q⟩
    | cons e r => cases ht
  | x :: xs, es, vs, F, m, H, s, Q, ht, hl, I, B, S, q => by
    cases es with
    | nil => cases ht
    | cons e r =>
      cases e <;> try cases ht
      rename_i nm p
      unfold tgtOk at ht
      simp only [Bool.and_eq_true, beq_iff_eq] at ht
      obtain ⟨⟨rfl, h1⟩, h2⟩ := ht
      cases vs with
      | nil => cases hl
      | cons v vs =>
        show wpAny _ _ (holding vs (assign (.Name (Str.ofString x) p) env v) >>= fun _ => assignInOrder ((assignEach r env).map (·.2)) vs) _ _ s
        refine wpAny_bind (wpAny_holding (wpAny_assign_Name (tx_store I B S (stOk_of hk BC h1) fun F2 s2 I2 B2 S2 => ?_)))
        exact inOrder hk BC xs r vs F2 _ H s2 Q h2 (by simpa using hl) I2 B2 S2 q

theorem tgt_len {k : Kinds} : ∀ {xs : List String} {es : List Expr}, tgtOk k xs es = true → es.length = xs.length ∧ (assignEach es env).length = xs.length ∧ (assignEach es env).findIdx? (·.1) = none
  | [], [], _ => ⟨rfl, rfl, rfl⟩
  | [], e :: r, h => by cases h
  | x :: xs, [], h => by cases h
  | x :: xs, e :: r, h => by
    cases e <;> try cases h
    rename_i nm p
    unfold tgtOk at h
    simp only [Bool.and_eq_true] at h
    obtain ⟨a, b, c⟩ := tgt_len h.2
    refine ⟨by simp [a], ?_, ?_⟩
    · show (assignEach r env).length + 1 = _
      rw [b]; rfl
    · show List.findIdx? (·.1) ((false, assign (.Name nm p) env) :: assignEach r env) = none
      rw [List.findIdx?_cons, c]; rfl

theorem sx_target (R : Room fs A n) {k : Kinds} (hk : ∀ q, env.kindOf q = k q) (BC : BaseC env F0) {xs : List String} {t : Expr} (ht : tgt1 k xs t = true) {v : Value} {Q : Loc → Hp → Prop} (q : bindT xs (ab v) Q m H) : SU prog w A F0 env (assign t env v) Q m H := by
  intro F s I B S
  unfold tgt1 at ht
  split at ht
  · rename_i nm p
    split at ht
    · rename_i x
      rw [Bool.and_eq_true, beq_iff_eq] at ht
      obtain ⟨rfl, ht⟩ := ht
      exact wpAny_assign_Name (tx_store I B S (stOk_of hk BC ht) fun F2 s2 I2 B2 S2 => ⟨F2, _, H, I2, B2, S2, q⟩)
    · cases ht
  · rename_i es kk p
    rw [Bool.and_eq_true, decide_eq_true_eq] at ht
    obtain ⟨h2, ht⟩ := ht
    obtain ⟨l1, l2, l3⟩ := tgt_len (env := env) ht
    unfold bindT at q
    split at q
    · simp at h2
    · split at q
      · rename_i a e
        obtain rfl := ab_ref e
        split at q
        · rename_i vs hx
          obtain ⟨hl, q⟩ := q
          obtain ⟨o, h1, items, mm, rfl, rfl, hz⟩ := S.get hx
          rw [abl_length] at hl
          refine wpAny_assign_Tuple R.handled ⟨_, h1, rfl, mm, rfl⟩ (by rw [l2, hl]) l3 fun h' he => ?_
          refine inOrder hk BC xs es items.toList F m H _ Q ht (by simpa using hl) I B (S.keeps (fun b o e => he b o (Nat.ne_of_lt (Heap.lt_size e)) e) s.toks) q
        · exact q.elim
      · exact q.elim
  · cases ht

theorem sx_for (R : Room fs A n) (T0 : StatB fs w env F0) {k : Kinds} (hk : ∀ q, env.kindOf q = k q) (BC : BaseC env F0) {xs : List String} {t it : Expr} {body orelse : List Stmt} {pos : Pos} (ht : tgt1 k xs t = true) (hs : noSet it = true) {Q : Fl → Loc → Hp → Prop} {bodyP oP : ST}
    (hb : ∀ F0', (∀ a o, F0.k a = some o → F0'.k a = some o) → BaseC env F0' → StatB fs w env F0' → ∀ m H Q, bodyP Q m H → SX prog w A F0' env (execs body env) Q m H) (ho : ∀ m H Q, oP Q m H → SX prog w A F0 env (execs orelse env) Q m H)
    (h : ∀ F, FrIn env F m → Base env F0 F → TV prog w A F env it (fun v H1 => match itemsOf H1 v with
      | some ys => forL (fun H' => sameSrc H1 H' v) (fun y Q' m' H' => bindT xs y (fun m'' => bodyP Q' m'') m' H') oP Q ys m H1
      | none => False) H) : SX prog w A F0 env (exec (.For t it body orelse pos) env) Q m H := by
  intro F s I B S
  refine wpAny_For (wpAny_mono (h F I B s S) (fun v s1 z => ?_) fun _ _ z => z) (noSet_of hs)
  obtain ⟨H1, S1, q⟩ := z
  dsimp only at q
  split at q
  · rename_i ys hys
    refine tx_pyIter (T0 _ _ I B) R hys S1 fun o hof It => ?_
    have fia : F.k s1.heap.objs.size = none := S1.freshF
    have f0 : F0.k s1.heap.objs.size = none := by
      cases e : F0.k s1.heap.objs.size with
      | none => rfl
      | some q => rw [B.ext _ _ e] at fia; cases fia
    have hLn : env.locals ≠ s1.heap.objs.size := by
      obtain ⟨oL, _, _, e, _⟩ := I.ns
      exact Nat.ne_of_lt (S1.ltF e)
    have S2 := S1.newKnown (o := o) (Nat.le_refl _) (fun _ _ e => Heap.get?_push_of_some _ e) (Heap.get?_push_size _ hof) s1.toks
    have hia3 : s1.heap.objs.size ≠ 347 := Nat.ne_of_gt S1.size
    generalize s1.heap.objs.size = ia at fia f0 hLn S2 hia3
    have old : ∀ a q, F.k a = some q → (F.put ia o).k a = some q := fun a q e => by rw [FF.put_ne (by rintro rfl; rw [fia] at e; cases e)]; exact e
    have ext0 : ∀ o', ∀ a q, F0.k a = some q → (F0.put ia o').k a = some q := fun o' a q e => by rw [FF.put_ne (by rintro rfl; rw [f0] at e; cases e)]; exact e
    have unp : ∀ {F' : FF} {o'}, Base env (F0.put ia o') F' → Base env F0 F' := fun B' => B'.unput (ext0 _) rfl rfl B.off
    have bc : ∀ o', (∃ vs, o'.data = .fields vs) → BaseC env (F0.put ia o') ∨ True := fun _ _ => .inr trivial
    refine codeAny_mono (R := fun r s' => ∃ f, r = .ok f ∧ Left prog w F0 env Q (flA f) s') ?_ fun r s' z => by obtain ⟨f, rfl, z⟩ := z; exact z
    refine codeAny_forLoop_any (fun k s => ∃ i F m H o, k = (ys.drop i).length ∧ F.k ia = some o ∧ ItAt H1 (ab v) ys i o ∧ FrIn env F m ∧ Base env (F0.put ia o) F ∧ St prog w F H s ∧
      forL (fun H' => sameSrc H1 H' (ab v)) (fun y Q' m' H' => bindT xs y (fun m'' => bodyP Q' m'') m' H') oP Q (ys.drop i) m H) ?_ ys.length
      ⟨0, F.put ia o, m, H1, o, rfl, FF.put_self .., It, I.mono old rfl, B.put hLn o, S2, q⟩
    rintro c s2 ⟨i, F2, m2, H2, o2, hc, hF2, It2, I2, B2, S2, q2⟩
    obtain ⟨vs, hvs⟩ := It2.fields
    by_cases hlt : i < ys.length
    · rw [List.drop_eq_getElem_cons hlt] at q2
      obtain ⟨hsrc, q2⟩ := q2
      refine wpAny_mono (tx_pyNext R It2 hF2 hia3 hsrc S2) (fun r s3 z => ?_) fun _ _ z => z.elim
      cases r with
      | none => obtain ⟨e, _⟩ := z; rw [List.getElem?_eq_getElem hlt] at e; cases e
      | some u =>
        obtain ⟨e, o3, It3, S3⟩ := z
        have hu : ys[i] = ab u := by rw [List.getElem?_eq_getElem hlt] at e; exact Option.some.inj e
        have I3 := I2.put hF2 hvs o3
        have B3 := B2.put hLn o3
        rw [FF.put_put] at B3
        rw [hu] at q2
        have BC3 : BaseC env (F0.put ia o3) := fun x c hx hc => by
          obtain ⟨c', oc, uu, a1, a2, a3⟩ := I3.holds x hx
          rw [hc] at a1; cases a1
          have : c ≠ ia := by
            rintro rfl
            rw [FF.put_self] at a2; cases a2
            obtain ⟨vs3, h3⟩ := It3.fields
            rw [h3] at a3; cases a3
          rw [FF.put_ne this]; exact BC x c hx hc
        refine letOwned It3 (S3.keepX (FF.put_self ..) It3.noFrame) ?_
        refine wpAny_mono (sx_target R hk BC3 ht q2 _ s3 I3 B3 S3) (fun _ s4 z => ?_) fun _ _ z => z.elim
        obtain ⟨F4, m4, H4, I4, B4, S4, q4⟩ := z
        refine wpAny_mono (hb (F0.put ia o3) (ext0 o3) BC3 (fun F9 m9 I9 B9 => T0 F9 m9 I9 (unp B9)) m4 H4 _ q4 F4 s4 I4 B4 S4) (fun f s5 z => ?_) fun _ _ z => z.elim
        obtain ⟨F5, m5, H5, I5, B5, S5, q5⟩ := z
        have nxt : forL (fun H' => sameSrc H1 H' (ab v)) (fun y Q' m' H' => bindT xs y (fun m'' => bodyP Q' m'') m' H') oP Q (ys.drop (i + 1)) m5 H5 → ∃ k', k' < c ∧ ∃ i F m H o, k' = (ys.drop i).length ∧ F.k ia = some o ∧ ItAt H1 (ab v) ys i o ∧ FrIn env F m ∧ Base env (F0.put ia o) F ∧ St prog w F H s5 ∧
            forL (fun H' => sameSrc H1 H' (ab v)) (fun y Q' m' H' => bindT xs y (fun m'' => bodyP Q' m'') m' H') oP Q (ys.drop i) m H := fun z =>
          ⟨_, by rw [hc]; simp; omega, i + 1, F5, m5, H5, o3, rfl, B5.ext ia o3 (FF.put_self ..), It3, I5, B5, S5, z⟩
        cases f
        · exact nxt q5
        · exact ⟨.next, rfl, F5, m5, H5, I5, unp B5, S5, q5⟩
        · exact nxt q5
        · exact ⟨_, rfl, F5, m5, H5, I5, unp B5, S5, q5⟩
    · have hnil : ys.drop i = [] := by simp; omega
      rw [hnil] at q2
      obtain ⟨hsrc, q2⟩ := q2
      refine wpAny_mono (tx_pyNext R It2 hF2 hia3 hsrc S2) (fun r s3 z => ?_) fun _ _ z => z.elim
      cases r with
      | some u =>
        obtain ⟨e, _⟩ := z
        rw [List.getElem?_eq_none (by omega)] at e; cases e
      | none =>
        have Bc : Base env F0 (F2.cut ia) := ⟨fun a q e => by
          have hne : a ≠ ia := by rintro rfl; rw [f0] at e; cases e
          rw [FF.cut_ne hne]
          exact B2.ext a q (by rw [FF.put_ne hne]; exact e), B2.os, B2.sa, B.off⟩
        exact wpAny_mono (ho m2 H2 _ q2 (F2.cut ia) s3 (I2.cut hF2 hvs) Bc z.2) (fun f s4 z => ⟨f, rfl, z⟩) fun _ _ z => z.elim
  · exact q.elim
end
end Csp

namespace Csp
open PySem PySem.W PySem.Calls PyProof.Rows PySem.SeqAt Builtin Builtin.ObjectAttr

section
variable {prog : Program} {w : World} {fs : List Env} {A : Around} {F F0 : FF} {H : Hp} {s : Shared} {n : Nat} {env : Env} {m : Loc}

/-- an assignment to one target that is no name -/
theorem sx_store1 {t e : Expr} {pos : Pos} {Q : Fl → Loc → Hp → Prop} (hsw : swapsWith e (some t) pos.line env = pure false) (hst : swappedStores [t] e env = pure none) (hn : noStar t = true)
    (h : ∀ F, FrIn env F m → Base env F0 F → TX prog w A F (eval e env) (fun v H1 => SU prog w A F0 env (assign t env v) (fun m' => Q .next m') m H1) H) : SX prog w A F0 env (exec (.Assign [t] e pos) env) Q m H := by
  intro F s I B S
  refine wpAny_Assign_stores (wpAny_mono (h F I B s S) (fun v s1 z => ?_) fun _ _ z => z) hsw hst
  obtain ⟨H1, S1, q⟩ := z
  have e1 : (assignEach [t] env).map (·.2) = [assign t env] := by cases t <;> first | rfl | cases hn
  rw [e1]
  exact q F s1 I B S1

theorem stores_attr {o e : Expr} {a : Str} {p : Pos} : swappedStores [.Attribute o a p] e env = pure none := by cases e <;> rfl
theorem stores_sub {o i e : Expr} {p : Pos} : swappedStores [.Subscript o i p] e env = pure none := by cases e <;> rfl
theorem stores_tup {es : List Expr} {k : Nat} {p : Pos} {e : Expr} (h : noTuple e = true) : swappedStores [.Tuple es k p] e env = pure none := by
  cases e <;> first | rfl | cases h

theorem su_attr (T0 : StatB fs w env F0) {o : Expr} {nm : String} {pos : Pos} {v : Value} {Q : Loc → Hp → Prop} (hn : ownNames.contains nm = true)
    (h : ∀ F, FrIn env F m → Base env F0 F → TV prog w A F env o (fun ov => setAttrP ov nm (ab v) (Q m)) H) : SU prog w A F0 env (assign (.Attribute o (Str.ofString nm) pos) env v) Q m H := by
  intro F s I B S
  have e : TX prog w A F (assign (.Attribute o (Str.ofString nm) pos) env v) (fun _ H' => Q m H') H := by
    show TX prog w A F (holding [v] (eval o env) >>= fun ov => standAt pos.atName >>= fun _ => holding [v, ov] (setAttr ov (Str.ofString nm) v) >>= fun _ => release [v, ov] []) _ H
    refine TX.bind (TX.holding (TX.mono (h F I B) fun ov H1 q => TX.bind (TX.standAt (TX.bind (TX.holding (TX.mono (tx_setAttr (T0 _ _ I B) (List.contains_iff_mem.mp hn) q) fun _ H2 q2 => TX.release q2))))))
  refine wpAny_mono (e s S) (fun _ s' z => ?_) fun _ _ z => z
  obtain ⟨H', S', q⟩ := z
  exact ⟨F, m, H', I, B, S', q⟩

def relL (i : Expr) (ov iv v : Value) : List Value := match i with | .Slice _ _ none _ => [iv, v, ov] | _ => [v, ov, iv]
theorem su_idx (T0 : StatB fs w env F0) {o i : Expr} {pos : Pos} {v : Value} {Q : Loc → Hp → Prop} 
    (h : ∀ F, FrIn env F m → Base env F0 F → TV prog w A F env o (fun ov => fun H1 => TV prog w A F env i (fun iv => setItemP ov iv (ab v) (Q m)) H1) H) : SU prog w A F0 env (assign (.Subscript o i pos) env v) Q m H := by
  intro F s I B S
  have e : TX prog w A F (assign (.Subscript o i pos) env v) (fun _ H' => Q m H') H := by
    show TX prog w A F (holding [v] (eval o env) >>= fun ov => holding [v, ov] (eval i env) >>= fun iv => standAt pos >>= fun _ => holding [v, ov, iv] (setItem ov iv v) >>= fun _ => release (relL i ov iv v) []) _ H
    refine TX.bind (TX.holding (TX.mono (h F I B) fun ov H1 q => TX.bind (TX.holding (TX.mono q fun iv H2 q2 => TX.bind (TX.standAt (TX.bind (TX.holding (TX.mono (tx_setItem (T0 _ _ I B) q2) fun _ H2 q3 => TX.release q3))))))))
  refine wpAny_mono (e s S) (fun _ s' z => ?_) fun _ _ z => z
  obtain ⟨H', S', q⟩ := z
  exact ⟨F, m, H', I, B, S', q⟩

theorem sx_del1 {t : Expr} {pos : Pos} {Q : Fl → Loc → Hp → Prop} (h : ∀ F, FrIn env F m → Base env F0 F → TX prog w A F (delete t env) (fun _ H' => Q .next m H') H) : SX prog w A F0 env (exec (.Delete [t] pos) env) Q m H := by
  intro F s I B S
  refine wpAny_Delete (wpAny_deleteEach_cons (wpAny_mono (h F I B s S) (fun _ s' z => wpAny_deleteEach_nil ?_) fun _ _ z => z))
  obtain ⟨H', S', q⟩ := z
  exact ⟨F, m, H', I, B, S', q⟩

theorem tx_delIdx (T : Stat fs w F) {o i : Expr} {pos : Pos} {Q : Hp → Prop} (h : TV prog w A F env o (fun ov => fun H1 => TV prog w A F env i (fun iv => delItemP ov iv Q) H1) H) : TX prog w A F (delete (.Subscript o i pos) env) (fun _ H' => Q H') H := by
  show TX prog w A F (eval o env >>= fun ov => holding [ov] (eval i env) >>= fun iv => standAt pos >>= fun _ => holding [ov, iv] (delItem ov iv) >>= fun _ => release [ov, iv] []) _ H
  exact TX.bind (TX.mono h fun ov H1 q => TX.bind (TX.holding (TX.mono q fun iv H2 q2 => TX.bind (TX.standAt (TX.bind (TX.holding (TX.mono (tx_delItem T q2) fun _ H3 q3 => TX.release q3)))))))

theorem bounds_full (k : Nat) : sliceBounds none none none k = (((0 : Nat) : Int), (k : Int), 1) := by simp [sliceBounds]
theorem bounds_tail (k : Nat) (i : Int) (h : i < 0) : sliceBounds (some i) none none k = (((k - (-i).toNat : Nat) : Int), (k : Int), 1) := by
  simp only [sliceBounds, Option.getD_none]
  simp
  rw [if_pos h]
  omega

theorem tx_delFull {o : Expr} {p pos : Pos} {Q : Hp → Prop} (h : TV prog w A F env o (fun ov => delFullP ov Q) H) : TX prog w A F (delete (.Subscript o (.Slice none none none p) pos) env) (fun _ H' => Q H') H := by
  show TX prog w A F (eval o env >>= fun ov => holding [ov] (eval (.Slice none none none p) env) >>= fun iv => standAt pos >>= fun _ => holding [ov, iv] (delItem ov iv) >>= fun _ => release [ov, iv] []) _ H
  refine TX.bind (TX.mono h fun ov H1 q => ?_)
  intro s S
  refine wpAny_bind (wpAny_holding ?_)
  show wpAny _ _ (eval (.Slice none none none p) env) _ _ s
  refine wpAny_bind (wpAny_pure (wpAny_bind (wpAny_holding (wpAny_pure (wpAny_bind (wpAny_holding (wpAny_pure ?_)))))))
  refine slice_new S fun sl s' S' hs => wpAny_bind (wpAny_standAt ?_)
  have q' : delFullP (ab ov) Q H1 := q
  clear q
  unfold delFullP at q'
  split at q'
  · rename_i a e
    obtain rfl := ab_ref e
    split at q'
    · rename_i xs hx
      refine wpAny_bind (wpAny_holding (wpAny_mono (delSlice_at (Q := Q) (c := 0) hx .none .none .none (bounds_full _) (by rw [List.take_zero]; exact q') S' hs) (fun _ s2 z => ?_) fun _ _ z => z))
      obtain ⟨H2, S2, q2⟩ := z
      exact TX.release q2 s2 S2
    · exact q'.elim
  · exact q'.elim
theorem tx_delTail {o l : Expr} {p pos : Pos} {Q : Hp → Prop} (h : TV prog w A F env o (fun ov => fun H1 => TV prog w A F env l (fun iv => delTailP ov iv Q) H1) H) : TX prog w A F (delete (.Subscript o (.Slice (some l) none none p) pos) env) (fun _ H' => Q H') H := by
  show TX prog w A F (eval o env >>= fun ov => holding [ov] (eval (.Slice (some l) none none p) env) >>= fun iv => standAt pos >>= fun _ => holding [ov, iv] (delItem ov iv) >>= fun _ => release [ov, iv] []) _ H
  refine TX.bind (TX.mono h fun ov H1 q => ?_)
  intro s S
  refine wpAny_bind (wpAny_holding ?_)
  show wpAny _ _ (eval (.Slice (some l) none none p) env) _ _ s
  refine wpAny_bind (wpAny_mono (q s S) (fun k s2 z => ?_) fun _ _ z => z)
  obtain ⟨H2, S2, q0⟩ := z
  refine wpAny_bind (wpAny_holding (wpAny_pure (wpAny_bind (wpAny_holding (wpAny_pure ?_)))))
  refine slice_new S2 fun sl s' S' hs => wpAny_bind (wpAny_standAt ?_)
  have q' : delTailP (ab ov) (ab k) Q H2 := q0
  unfold delTailP at q'
  split at q'
  · rename_i a i e e2
    obtain rfl := ab_ref e
    obtain ⟨t, rfl⟩ := ab_int e2
    split at q'
    · rename_i xs hx
      obtain ⟨b1, b2, q'⟩ := q'
      refine wpAny_bind (wpAny_holding (wpAny_mono (delSlice_at (Q := Q) (c := xs.length - (-i).toNat) hx (.int i t) .none .none (bounds_tail _ _ b2) q' S' hs) (fun _ s2 z => ?_) fun _ _ z => z))
      obtain ⟨H3, S3, q3⟩ := z
      exact TX.release q3 s2 S3
    · exact q'.elim
  · exact q'.elim
end
end Csp

namespace Csp
open PySem PySem.W PySem.Calls PyProof.Rows PySem.SeqAt Builtin Builtin.ObjectAttr

section
variable {prog : Program} {w : World} {fs : List Env} {A : Around} {n : Nat}

/-- a comprehension that is stored in a name of the frame -/
theorem sx_compUse (R : Room fs A n) {F0 : FF} {env : Env} {m : Loc} {H : Hp} (T0 : StatB fs w env F0) {x : E} {k : Kinds} {elt : Expr} {gens : List Comprehension} {scope : Scope} {vp : Pos} {y : String} {py pos : Pos} {Q : Fl → Loc → Hp → Prop}
    (hs : simE x k (.ListComp elt gens scope vp) = true) (hk : ∀ q, env.kindOf q = k q) (hloc : k (Str.ofString y) = some .local)
    (hl : (py.line == vp.line) = true) (hn : (scope.names.any fun q => q.1 == Str.ofString y && (q.2 == .local || q.2 == .cell)) = false)
    (h : (semX (CX prog w n) m x).v (fun v => Q .next (upL m y v)) H) : SX prog w A F0 env (exec (.Assign [.Name (Str.ofString y) py] (.ListComp elt gens scope vp) pos) env) Q m H := by
  intro F s I B S
  have T := T0 _ _ I B
  have hsw : swapsWith (.ListComp elt gens scope vp) (some (.Name (Str.ofString y) py)) pos.line env = pure true := by
    show (pure (env.blockKind == .function && env.kindOf (Str.ofString y) == some .local && py.line == vp.line && !(scope.names.any fun q => q.1 == Str.ofString y && (q.2 == .local || q.2 == .cell))) : Sem Bool) = pure true
    have hb : env.blockKind = .function := by unfold Env.blockKind; rw [I.kind]; rfl
    rw [hb, hk, hloc, hl, hn]; rfl
  rw [exec_Assign_Name_used _ _ _ _ hsw]
  refine wpAny_bind (wpAny_standAt (wpAny_bind ?_))
  cases x with
  | comp elt' x it ifs =>
    unfold simE at hs
    split at hs
    · rename_i e1 t1 p1 it1 if1 a1 sc1 q1 heq
      cases heq
      simp only [Bool.and_eq_true, beq_iff_eq] at hs
      obtain ⟨⟨⟨⟨⟨⟨rfl, rfl⟩, h1⟩, h2⟩, h3⟩, h4⟩, h5⟩ := hs
      have K : ScOk env.kindOf _ [x] := scOk_of (by rw [show env.kindOf = k from funext hk]; exact h2)
      have ih := soundX (prog := prog) R it k _ m env F h3 hk I T
      show wpAny _ _ (do let _ ← comprehension _ scope env _ (newList []) false (eval _ env) (some (assign (.Name (Str.ofString y) py) env))) _ _ s
      refine wpAny_bind (wpAny_mono (tx_compUse (Q := fun m' => Q .next m') (Post := fun s' => Left prog w F0 env Q .next s') (xs0 := [x]) rfl rfl rfl (noSet_of h1) K I B T R S (by rw [hk]; exact hloc)
        (first1 (fin := fun acc H' => Q .next (upL m y (.ref acc)) H') T R I K h1 (eltP := fun y => (semX (CX prog w n) (upL m x y) elt').v) (testP := fun y => semTs (CX prog w n) (upL m x y) ifs)
          (fun cenv F' y Q H' hk' I' T' q => (soundX R elt' _ _ _ cenv F' h4 hk' I' T').1 _ _ q) (fun cenv F' y Q H' hk' I' T' q => soundT R ifs _ _ _ cenv F' h5 hk' I' T' _ _ q) (ih.1 _ _ h))
        fun F' m' H' s' I' B' S' q => ⟨F', m', H', I', B', S', q⟩) (fun _ s' z => wpAny_pure (wpAny_pure z)) fun _ _ z => z)
    · cases hs
  | comp2 elt' x it y2 it2 c =>
    unfold simE at hs
    split at hs
    · rename_i heq
      cases heq
      simp only [Bool.and_eq_true, beq_iff_eq, bne_iff_ne] at hs
      obtain ⟨⟨⟨⟨⟨⟨⟨⟨⟨⟨⟨rfl, rfl⟩, rfl⟩, rfl⟩, hxy⟩, h1⟩, h1'⟩, h2⟩, h3⟩, h4⟩, h5⟩, h6⟩ := hs
      have K : ScOk env.kindOf _ [x, y2] := scOk_of (by rw [show env.kindOf = k from funext hk]; exact h2)
      have ih := soundX (prog := prog) R it k _ m env F h3 hk I T
      show wpAny _ _ (do let _ ← comprehension _ scope env _ (newList []) false (eval _ env) (some (assign (.Name (Str.ofString y) py) env))) _ _ s
      refine wpAny_bind (wpAny_mono (tx_compUse (Q := fun m' => Q .next m') (Post := fun s' => Left prog w F0 env Q .next s') (xs0 := [x, y2]) rfl rfl rfl (noSet_of h1) K I B T R S (by rw [hk]; exact hloc)
        (first2 (fin := fun acc H' => Q .next (upL m y (.ref acc)) H') T R I K h1 h1' hxy (it2P := fun a => (semX (CX prog w n) (upL m x a) it2).v) (testP := fun a b => (semX (CX prog w n) (upL (upL m x a) y2 b) c).t) (eltP := fun a b => (semX (CX prog w n) (upL (upL m x a) y2 b) elt').v)
          (fun cenv F' a Q H' hk' I' T' q => (soundX R it2 _ _ _ cenv F' h4 hk' I' T').1 _ _ q) (fun cenv F' a b Q H' hk' I' T' q => (soundX R elt' _ _ _ cenv F' h5 hk' I' T').1 _ _ q)
          (fun cenv F' a b Q H' hk' I' T' q => tests_cons (TX.mono ((soundX R c _ _ _ cenv F' h6 hk' I' T').2 _ _ q) fun t H1 z => by cases t <;> first | exact z | exact tests_nil z)) (ih.1 _ _ h))
        fun F' m' H' s' I' B' S' q => ⟨F', m', H', I', B', S', q⟩) (fun _ s' z => wpAny_pure (wpAny_pure z)) fun _ _ z => z)
    · cases hs
  | lit v =>
    unfold simE litOk at hs
    simp [gl] at hs
  | _ => unfold simE at hs; cases hs

theorem SX.mono {F0 : FF} {env : Env} {t : Sem Flow} {Q Q' : Fl → Loc → Hp → Prop} {m : Loc} {H : Hp} (h : SX prog w A F0 env t Q m H) (hq : ∀ f m H, Q f m H → Q' f m H) : SX prog w A F0 env t Q' m H := fun F s I B S =>
  wpAny_mono (h F s I B S) (fun f s' ⟨F', m', H', a, b, c, d⟩ => ⟨F', m', H', a, b, c, hq _ _ _ d⟩) fun _ _ z => z

mutual
theorem soundS (R : Room fs A n) : ∀ (x : S) (k : Kinds) (st : Stmt) (m : Loc) (H : Hp) (env : Env) (F0 : FF) (Q : Fl → Loc → Hp → Prop), simS x k st = true → (∀ q, env.kindOf q = k q) → BaseC env F0 → StatB fs w env F0 → semS (CX prog w n) x Q m H → SX prog w A F0 env (exec st env) Q m H
  | .expr e, k, st, m, H, env, F0, Q, hs, hk, BC, T, h => by
    unfold simS at hs
    split at hs
    · rw [Bool.and_eq_true, Bool.not_eq_true'] at hs
      exact sx_expr hs.1 fun F I B => (soundX R e k _ m env F hs.2 hk I (T _ _ I B)).1 _ _ h
    · cases hs
  | .assign x e, k, st, m, H, env, F0, Q, hs, hk, BC, T, h => by
    unfold simS at hs
    split at hs
    · rename_i nm p v sp
      simp only [Bool.and_eq_true, beq_iff_eq] at hs
      obtain ⟨⟨⟨rfl, h1⟩, h2⟩, h3⟩ := hs
      by_cases hc : isListComp v = true
      · rw [hc] at h3
        simp only [Bool.not_true, Bool.false_or] at h3
        split at h3
        · rename_i elt gens scope vp
          simp only [Bool.or_eq_true, Bool.and_eq_true, beq_iff_eq, Bool.not_eq_true'] at h3
          rcases h3 with h3 | ⟨⟨h3, h4⟩, h5⟩
          · refine sx_assign (stOk_of hk BC h2) ?_ fun F I B => (soundX R e k _ m env F h1 hk I (T _ _ I B)).1 _ _ h
            show (pure (env.blockKind == .function && env.kindOf (Str.ofString x) == some .local && p.line == vp.line && !(scope.names.any fun q => q.1 == Str.ofString x && (q.2 == .local || q.2 == .cell))) : Sem Bool) = pure false
            rw [hk, h3]
            have : (some NameKind.cell == some NameKind.local) = false := rfl
            rw [this, Bool.and_false, Bool.false_and, Bool.false_and]
          · exact sx_compUse R T h1 hk h3 (by rw [h4]; exact beq_self_eq_true _) h5 h
        · cases h3
      · exact sx_assign (stOk_of hk BC h2) (sw_false (by simpa using hc)) fun F I B => (soundX R e k _ m env F h1 hk I (T _ _ I B)).1 _ _ h
    · cases hs
  | .assignT xs e, k, st, m, H, env, F0, Q, hs, hk, BC, T, h => by
    unfold simS at hs
    split at hs
    · simp only [Bool.and_eq_true, Bool.not_eq_true'] at hs
      obtain ⟨⟨⟨h1, h2⟩, h3⟩, h4⟩ := hs
      exact sx_store1 (sw_false h4) (stores_tup h3) rfl fun F I B => TX.mono ((soundX R e k _ m env F h2 hk I (T _ _ I B)).1 _ _ h) fun v H1 q => sx_target R hk BC h1 q
    · cases hs
  | .assignAttr o nm e, k, st, m, H, env, F0, Q, hs, hk, BC, T, h => by
    unfold simS at hs
    split at hs
    · simp only [Bool.and_eq_true, beq_iff_eq, Bool.not_eq_true'] at hs
      obtain ⟨⟨⟨⟨rfl, h1⟩, h2⟩, h3⟩, h4⟩ := hs
      exact sx_store1 (sw_false h4) stores_attr rfl fun F I B => TX.mono ((soundX R e k _ m env F h3 hk I (T _ _ I B)).1 _ _ h) fun v H1 q => su_attr T h1 fun F I B => (soundX R o k _ m env F h2 hk I (T _ _ I B)).1 _ _ q
    · cases hs
  | .assignIdx o i e, k, st, m, H, env, F0, Q, hs, hk, BC, T, h => by
    unfold simS at hs
    split at hs
    · simp only [Bool.and_eq_true, Bool.not_eq_true'] at hs
      obtain ⟨⟨⟨⟨h1, h2⟩, h3⟩, h4⟩, h5⟩ := hs
      exact sx_store1 (sw_false h5) stores_sub rfl fun F I B => TX.mono ((soundX R e k _ m env F h4 hk I (T _ _ I B)).1 _ _ h) fun v H1 q => su_idx T fun F I B =>
        TX.mono ((soundX R o k _ m env F h2 hk I (T _ _ I B)).1 _ _ q) fun ov H2 q2 => (soundX R i k _ m env F h3 hk I (T _ _ I B)).1 _ _ q2
    · cases hs
  | .aug x op e, k, st, m, H, env, F0, Q, hs, hk, BC, T, h => by
    unfold simS at hs
    split at hs
    · simp only [Bool.and_eq_true, beq_iff_eq] at hs
      obtain ⟨⟨⟨rfl, rfl⟩, h2⟩, h3⟩ := hs
      have h : (match m x with
        | some a => (semX (CX prog w n) m e).v (fun b => augP _ a b fun v => Q .next (upL m x v)) H
        | none => False) := h
      split at h
      · rename_i a ha
        exact sx_aug (stOk_of hk BC h2) ha fun F I B => (soundX R e k _ m env F h3 hk I (T _ _ I B)).1 _ _ h
      · exact h.elim
    · cases hs
  | .ret e, k, st, m, H, env, F0, Q, hs, hk, BC, T, h => by
    unfold simS at hs
    split at hs
    · exact sx_ret fun F I B => (soundX R e k _ m env F hs hk I (T _ _ I B)).1 _ _ h
    · unfold isNoneLit at hs
      split at hs
      · intro F s I B S
        exact wpAny_Return_none ⟨F, m, H, I, B, S, h⟩
      · cases hs
    · cases hs
  | .ife c a b, k, st, m, H, env, F0, Q, hs, hk, BC, T, h => by
    unfold simS at hs
    split at hs
    · simp only [Bool.and_eq_true] at hs
      refine sx_if fun F I B => TX.mono ((soundX R c k _ m env F hs.1.1 hk I (T _ _ I B)).2 _ _ h) fun t H1 q => ?_
      cases t
      · exact soundSL R b k _ m H1 env F0 Q hs.2 hk BC T q
      · exact soundSL R a k _ m H1 env F0 Q hs.1.2 hk BC T q
    · cases hs
  | .for1 xs it body orelse, k, st, m, H, env, F0, Q, hs, hk, BC, T, h => by
    unfold simS at hs
    split at hs
    · simp only [Bool.and_eq_true] at hs
      obtain ⟨⟨⟨⟨h1, h2⟩, h3⟩, h4⟩, h5⟩ := hs
      exact sx_for R T hk BC h1 h2 (fun F0' hx BC' T' m H Q q => soundSL R body k _ m H env F0' Q h4 hk BC' T' q) (fun m H Q q => soundSL R orelse k _ m H env F0 Q h5 hk BC T q)
        fun F I B => (soundX R it k _ m env F h3 hk I (T _ _ I B)).1 _ _ h
    · cases hs
  | .whl c body orelse, k, st, m, H, env, F0, Q, hs, hk, BC, T, h => by
    unfold simS at hs
    split at hs
    · simp only [Bool.and_eq_true] at hs
      exact sx_while (fun F m H Q I B q => (soundX R c k _ m env F hs.1.1 hk I (T _ _ I B)).2 _ _ q) (fun m H Q q => soundSL R body k _ m H env F0 Q hs.1.2 hk BC T q) (fun m H Q q => soundSL R orelse k _ m H env F0 Q hs.2 hk BC T q) h
    · cases hs
  | .brk, k, st, m, H, env, F0, Q, hs, hk, BC, T, h => by
    unfold simS at hs
    split at hs
    · exact sx_brk h
    · cases hs
  | .delIdx o i, k, st, m, H, env, F0, Q, hs, hk, BC, T, h => by
    unfold simS at hs
    split at hs
    · rw [Bool.and_eq_true] at hs
      exact sx_del1 fun F I B => tx_delIdx (T _ _ I B) (TX.mono ((soundX R o k _ m env F hs.1 hk I (T _ _ I B)).1 _ _ h) fun v H1 q => (soundX R i k _ m env F hs.2 hk I (T _ _ I B)).1 _ _ q)
    · cases hs
  | .delFull o, k, st, m, H, env, F0, Q, hs, hk, BC, T, h => by
    unfold simS at hs
    split at hs
    · exact sx_del1 fun F I B => tx_delFull ((soundX R o k _ m env F hs hk I (T _ _ I B)).1 _ _ h)
    · cases hs
  | .delTail o i, k, st, m, H, env, F0, Q, hs, hk, BC, T, h => by
    unfold simS at hs
    split at hs
    · rw [Bool.and_eq_true] at hs
      exact sx_del1 fun F I B => tx_delTail (TX.mono ((soundX R o k _ m env F hs.1 hk I (T _ _ I B)).1 _ _ h) fun v H1 q => (soundX R i k _ m env F hs.2 hk I (T _ _ I B)).1 _ _ q)
    · cases hs
  | .bad, k, st, m, H, env, F0, Q, hs, hk, BC, T, h => False.elim h
  | .yld e, k, st, m, H, env, F0, Q, hs, hk, BC, T, h => by unfold simS at hs; cases hs
theorem soundSL (R : Room fs A n) : ∀ (x : SL) (k : Kinds) (ss : List Stmt) (m : Loc) (H : Hp) (env : Env) (F0 : FF) (Q : Fl → Loc → Hp → Prop), simSL x k ss = true → (∀ q, env.kindOf q = k q) → BaseC env F0 → StatB fs w env F0 → semSL (CX prog w n) x Q m H → SX prog w A F0 env (execs ss env) Q m H
  | .nil, k, ss, m, H, env, F0, Q, hs, hk, BC, T, h => by
    unfold simSL at hs
    obtain rfl : ss = [] := by simpa using hs
    exact sx_nil h
  | .cons a r, k, ss, m, H, env, F0, Q, hs, hk, BC, T, h => by
    unfold simSL at hs
    split at hs
    · rw [Bool.and_eq_true] at hs
      refine sx_cons (SX.mono (soundS R a k _ m H env F0 _ hs.1 hk BC T h) fun fl m' H' q => ?_)
      cases fl
      · exact soundSL R r k _ m' H' env F0 Q hs.2 hk BC T q
      · exact q
      · exact q
      · exact q
    · cases hs
end
end
end Csp

namespace Csp
open PySem PySem.W PySem.Calls PyProof.Rows PySem.SeqAt Builtin Builtin.ObjectAttr

def locOf (bs : List (String × AV)) : Loc := bs.foldl (fun m p => upL m p.1 p.2) (fun _ => none)
def retOf : Fl → AV
  | .ret v => v
  | _ => .none

def fdAt (K : Frag) (f : Addr) : Option FuncData := match K.lookup f with
  | some ⟨_, _, .func fd, _⟩ => some fd
  | _ => none
theorem fdAt_of {K : Frag} {f : Addr} {fd : FuncData} (h : fdAt K f = some fd) : ∃ c d sl, K.lookup f = some ⟨c, d, .func fd, sl⟩ := by
  unfold fdAt at h
  split at h
  · rename_i e; cases h; exact ⟨_, _, _, e⟩
  · cases h
/-- what a function's object must be for the body to be its body -/
def fdOk (K : Frag) (fd : FuncData) (body : SL) : Bool :=
  fd.globals == mainGlobals && fd.builtins == builtinsNs && fd.closure.isEmpty && !fd.scope.isCoroutine && !fd.scope.isGenerator && fd.scope.kind == .function && codeIn K fd.code fd.qualname && (fd.scope.names.all fun p => p.2 != .free) &&
    (match fd.body with | .stmts ss => simSL body (fun q => fd.scope.names.lookup q) ss | _ => false)
noncomputable def fnOk (w : World) (f : Addr) (body : SL) : Bool := (fdAt (KK w) f).any fun fd => fdOk (KK w) fd body
/-- what the call binds -/
def Binds (w : World) (f : Addr) (vs : List Value) (bs : List (String × Value)) : Prop :=
  ∀ S, (fdAt (KK w) f).bind (fun fd => if bs.all (fun p => fd.scope.names.lookup (Str.ofString p.1) == some .local || fd.scope.names.lookup (Str.ofString p.1) == some .cell) then peek (KK w) S (bindArgs fd ⟨vs, []⟩) else none) = some (bs.map fun p => (Str.ofString p.1, p.2))

theorem k_nolimit (w : World) : (match (KK w).lookup cStatics with
  | some ⟨_, _, .dict es _, _⟩ => es.isEmpty
  | _ => false) = true := by kernel_rfl

theorem cellsFrom_has {nm : Str} : ∀ (names : List (Str × NameKind)) (k : Nat) (acc : List (Str × Addr)), ((nm, NameKind.cell) ∈ names ∨ ∃ c, (nm, c) ∈ acc) → ∃ c, (nm, c) ∈ cellsFrom k names acc
  | [], k, acc, h => by
    rcases h with h | h
    · cases h
    · exact h
  | (n', kd) :: r, k, acc, h => by
    unfold cellsFrom
    split
    · rename_i hk
      refine cellsFrom_has r _ _ ?_
      rcases h with h | ⟨c, h⟩
      · rcases List.mem_cons.mp h with e | h
        · cases e; exact .inr ⟨_, List.mem_cons_self⟩
        · exact .inl h
      · exact .inr ⟨c, List.mem_cons_of_mem _ h⟩
    · rename_i hk
      refine cellsFrom_has r _ _ ?_
      rcases h with h | h
      · rcases List.mem_cons.mp h with e | h
        · cases e; exact absurd rfl hk
        · exact .inl h
      · exact .inr h
theorem lookup_some_of_mem {β : Type} {l : List (Str × β)} {n : Str} {c : β} (hm : (n, c) ∈ l) : ∃ c', l.lookup n = some c' := by
  induction l with
  | nil => cases hm
  | cons p r ih =>
    obtain ⟨k, v⟩ := p
    rw [List.lookup_cons]
    cases hb : n == k with
    | true => exact ⟨v, rfl⟩
    | false =>
      rcases List.mem_cons.mp hm with e | hm
      · cases e; simp at hb
      · exact ih hm

theorem bind_rel (kindOf : Str → Option NameKind) : ∀ (bs : List (String × Value)) (m : Loc) (mm cm : Str → Option Value),
    (∀ p ∈ bs, kindOf (Str.ofString p.1) = some .local ∨ kindOf (Str.ofString p.1) = some .cell) →
    (∀ x v, kindOf (Str.ofString x) = some .local → m x = some v → ∃ u, mm (Str.ofString x) = some u ∧ ab u = v) →
    (∀ x v, kindOf (Str.ofString x) = some .cell → m x = some v → ∃ u, cm (Str.ofString x) = some u ∧ ab u = v) →
    (∀ x v, kindOf (Str.ofString x) = some .local → ((bs.map fun p => (p.1, ab p.2)).foldl (fun m p => upL m p.1 p.2) m) x = some v → ∃ u, bindL kindOf (bs.map fun p => (Str.ofString p.1, p.2)) mm (Str.ofString x) = some u ∧ ab u = v) ∧
    (∀ x v, kindOf (Str.ofString x) = some .cell → ((bs.map fun p => (p.1, ab p.2)).foldl (fun m p => upL m p.1 p.2) m) x = some v → ∃ u, bindC kindOf (bs.map fun p => (Str.ofString p.1, p.2)) cm (Str.ofString x) = some u ∧ ab u = v)
  | [], m, mm, cm, _, h1, h2 => ⟨h1, h2⟩
  | (x, u) :: r, m, mm, cm, hk, h1, h2 => by
    refine bind_rel kindOf r (upL m x (ab u)) _ _ (fun p hp => hk p (List.mem_cons_of_mem _ hp)) (fun y v hy hm => ?_) (fun y v hy hm => ?_)
    · unfold upL at hm
      by_cases e : y = x
      · subst e
        rw [if_pos rfl] at hm; cases hm
        rw [if_pos hy]
        exact ⟨u, if_pos rfl, rfl⟩
      · rw [if_neg e] at hm
        obtain ⟨u', a, b⟩ := h1 y v hy hm
        refine ⟨u', ?_, b⟩
        split
        · exact (if_neg (str_ne e)).trans a
        · exact a
    · unfold upL at hm
      by_cases e : y = x
      · subst e
        rw [if_pos rfl] at hm; cases hm
        rw [if_neg (by rw [hy]; decide)]
        exact ⟨u, if_pos rfl, rfl⟩
      · rw [if_neg e] at hm
        obtain ⟨u', a, b⟩ := h2 y v hy hm
        refine ⟨u', ?_, b⟩
        split
        · exact a
        · exact (if_neg (str_ne e)).trans a

section
variable {prog : Program} {w : World} {fs : List Env} {A : Around} {F F0 : FF} {H : Hp} {s : Shared} {n : Nat}

/-- the frame of a call -/
theorem call_frame (S : St prog w F H s) {env : Env} {s1 : Shared} {mm cm : Str → Option Value} (hk : env.scope.kind = .function) (hg : env.globals = mainGlobals) (hb : env.builtins = builtinsNs) (hfree : ∀ x, env.kindOf x ≠ some .free)
    (hcell : ∀ x, env.kindOf x = some .cell → ∃ c, env.cells.lookup x = some c) (X : InCallC s env.locals mm env.cells cm s1) {m : Loc}
    (h1 : ∀ x v, env.kindOf (Str.ofString x) = some .local → m x = some v → ∃ u, mm (Str.ofString x) = some u ∧ ab u = v)
    (h2 : ∀ x v, env.kindOf (Str.ofString x) = some .cell → m x = some v → ∃ u, cm (Str.ofString x) = some u ∧ ab u = v) :
    ∃ F', FrIn env F' m ∧ Base env F F' ∧ BaseC env F ∧ St prog w F' H s1 := by
  have kp := X.toInCall.keep
  have fr := X.toInCall.fresh
  have lt : ∀ a o, F.k a = some o → a < s.heap.objs.size := fun a o e => S.ltF e
  obtain ⟨oL, es, ep, g1, g2, g3, g4⟩ := X.toInCall.ns
  classical
  let gh : Obj := { cls := .type "frame", dict := some F.os.2, data := .dict es ep }
  let F' : FF := { F with k := fun a => if a = env.locals then some gh else if (∃ x, (x, a) ∈ env.cells) then s1.heap.get? a else F.k a }
  have finL : F'.k env.locals = some gh := if_pos rfl
  have fin : ∀ a, (∃ x, (x, a) ∈ env.cells) → F'.k a = s1.heap.get? a := fun a ⟨x, h⟩ => by
    have : a ≠ env.locals := Nat.ne_of_gt (X.above x a h)
    exact (if_neg this).trans (if_pos ⟨x, h⟩)
  have fout' : ∀ a, a ≠ env.locals → (¬ ∃ x, (x, a) ∈ env.cells) → F'.k a = F.k a := fun a h1 h2 => (if_neg h1).trans (if_neg h2)
  have fout : ∀ a, a < s.heap.objs.size → F'.k a = F.k a := fun a h => by
    have h1 : a ≠ env.locals := Nat.ne_of_lt (Nat.lt_of_lt_of_le h fr)
    have h2 : ¬ ∃ x, (x, a) ∈ env.cells := fun ⟨x, hx⟩ => Nat.lt_irrefl _ (Nat.lt_of_lt_of_le h (Nat.le_trans fr (Nat.le_of_lt (X.above x a hx))))
    exact fout' a h1 h2
  refine ⟨F', ⟨hk, hg, hb, ⟨gh, es, ep, finL, rfl, g3, fun x v hx hm => ?_⟩, fun x v hx hm => ?_, fun x hx => ?_, X.apart, fun x c hc => Nat.ne_of_gt (X.above x c hc), fun o2 e2 => by rw [finL] at e2; cases e2; exact ⟨rfl, rfl⟩⟩, ⟨fun a o e => (fout a (lt a o e)).trans e, rfl, rfl, ?_⟩, fun x c hx hc => ?_, ?_⟩
  · obtain ⟨u, a, b⟩ := h1 x v hx hm
    exact ⟨u, (g4 _).trans a, b⟩
  · have hx := hx.resolve_right (hfree _)
    obtain ⟨c, hc⟩ := hcell _ hx
    obtain ⟨u, a, b⟩ := h2 x v hx hm
    obtain ⟨o, q1, q2⟩ := X.cell _ c hc
    exact ⟨c, o, u, hc, (fin _ ⟨_, mem_of_lookup hc⟩).trans q1, by rw [q2, a], b⟩
  · obtain ⟨c, hc⟩ := hcell _ hx
    obtain ⟨o, q1, q2⟩ := X.cell _ c hc
    exact ⟨c, o, _, hc, (fin _ ⟨_, mem_of_lookup hc⟩).trans q1, q2⟩
  · cases e : F.k env.locals with
    | none => rfl
    | some q => exact absurd (lt _ _ e) (Nat.not_lt.mpr fr)
  · cases e : F.k c with
    | none => rfl
    | some q => exact absurd (lt _ _ e) (Nat.not_lt.mpr (Nat.le_trans fr (Nat.le_of_lt (X.above _ c (mem_of_lookup hc)))))
  · obtain ⟨h, tk, rfl⟩ := X.toInCall.same
    refine ⟨fun a o e => ?_, fun a x e => ?_, ?_, ?_, S.gens, S.os⟩
    · by_cases qL : a = env.locals
      · subst qL
        rw [finL] at e; cases e
        exact ⟨oL, g1, .inr ⟨rfl, rfl, g2⟩⟩
      · by_cases q : ∃ x, (x, a) ∈ env.cells
        · rw [fin a q] at e; exact ⟨o, e, .inl rfl⟩
        · rw [fout' a qL q] at e
          obtain ⟨o', k1, k2⟩ := S.keep a o e
          exact ⟨o', kp a o' k1, k2⟩
    · obtain ⟨o, a1, a2, a3, a4⟩ := S.own a x e
      have := fout a (Heap.lt_size a1)
      exact ⟨o, kp a o a1, a2, fun q => by rw [this]; exact a3 q, fun q => by rw [this]; exact a4 q⟩
    · rw [fout 347 S.size]; exact S.top
    · obtain ⟨o, a1, a2⟩ := S.sa
      exact ⟨o, (fout _ (lt _ _ a1)).trans a1, a2⟩

theorem no_limit (T : Stat fs w F) (S : St prog w F H s) : s.heap.NoLimit := by
  have k := k_nolimit w
  split at k
  · rename_i c d es ep sl e
    have hes : es = #[] := by simpa using k
    subst hes
    exact ⟨fun _ => none, ⟨_, #[], ep, T.inK S _ _ e, rfl, fun e he => by simp at he, fun _ => rfl⟩, rfl⟩
  · cases k

theorem statB {env : Env} (T : Stat fs w F) (hf : env.frame = some env.locals) : StatB (env :: fs) w env F := fun F9 m9 I9 B9 =>
  ⟨fun a o e => B9.ext a o (T.top a o e), let ⟨o, es, ep, h1, r⟩ := T.bi; ⟨o, es, ep, B9.ext _ _ h1, r⟩, fun e he => by
    rcases List.mem_cons.mp he with rfl | he
    · obtain ⟨o, es, ep, h1, h2, _⟩ := I9.ns
      exact ⟨by rw [I9.kind]; decide, _, o, hf, h1, ⟨es, ep, h2⟩, I9.fcls _ h1⟩
    · obtain ⟨h1, L, o, h2, h3, r⟩ := T.live e he
      exact ⟨h1, L, o, h2, B9.ext _ _ h3, by rw [B9.os]; exact r⟩⟩

/-- a call of a function of the text -/
theorem cx_fn {f : Addr} {body : SL} {args : List AV} {Q : AV → Hp → Prop} (hf : fnOk w f body = true) (m : Loc)
    (hb : ∀ vv : List Value, vv.map ab = args → ∃ bs, Binds w f vv bs ∧ m = locOf (bs.map fun p => (p.1, ab p.2)))
    (h : semSL (CX prog w n) body (fun fl _ H' => Q (retOf fl) H') m H) : CX prog w (n + 1) (.ref f) args Q H := by
  intro fs A F fv vv s R T e1 e2 S
  obtain rfl := ab_ref e1
  have X := T.inK S
  obtain ⟨bs, hbs, hm⟩ := hb vv e2
  obtain ⟨fd, hfd, hok⟩ := any_some hf
  obtain ⟨c, d, sl, ho⟩ := fdAt_of hfd
  unfold fdOk at hok
  simp only [Bool.and_eq_true, beq_iff_eq, Bool.not_eq_true'] at hok
  obtain ⟨⟨⟨⟨⟨⟨⟨⟨k1, k2⟩, k3⟩, k4⟩, k5⟩, k6⟩, k7⟩, k8⟩, k9⟩ := hok
  split at k9
  · rename_i ss hss
    have k8 := List.all_eq_true.mp k8
    refine codeAny_call_function R.le (X _ _ ho) rfl k4 k5 hss (codeRec_of X k7) ?_
    have hb0 := hbs ⟨(model prog w).prog, (model prog w).w.params⟩
    rw [hfd, Option.bind_some] at hb0
    split at hb0
    · rename_i hall
      have hall := List.all_eq_true.mp hall
      refine (Looks.of_peek (M := model prog w) X hb0).here ?_
      rw [show fd.closure = [] from by simpa using k3]
      have hkinds : ∀ p ∈ bs, fd.scope.names.lookup (Str.ofString p.1) = some .local ∨ fd.scope.names.lookup (Str.ofString p.1) = some .cell := fun p hp => by
        have := hall p hp
        simpa [Bool.or_eq_true, beq_iff_eq] using this
      have hcells : ∀ (k : Nat) x, fd.scope.names.lookup x = some .cell → ∃ c, (cellsFrom k fd.scope.names []).lookup x = some c := fun k x hx => by
        obtain ⟨c, hc⟩ := cellsFrom_has fd.scope.names k [] (.inl (mem_lookup hx))
        exact lookup_some_of_mem hc
      refine wpAny_newFunctionEnv_cells k6 (fun x hx => ?_) fun env he s1 Xc => ?_
      · obtain ⟨p, hp, rfl⟩ := List.mem_map.mp hx
        rcases hkinds p hp with q | q
        · exact .inl q
        · obtain ⟨c, hc⟩ := hcells (s.heap.objs.size + 1) _ q
          exact .inr ⟨q, by rw [hc]; rfl⟩
      · have hkf : ∀ q, env.kindOf q = fd.scope.names.lookup q := fun q => by rw [he]; rfl
        have hr := bind_rel env.kindOf bs (fun _ => none) (fun _ => none) (fun _ => none) (fun p hp => by rw [hkf]; exact hkinds p hp) (fun _ _ _ e => by cases e) (fun _ _ _ e => by cases e)
        obtain ⟨F', I, B, BC, S1⟩ := call_frame (m := m) S (env := env) (by rw [he]; exact k6) (by rw [he]; exact k1) (by rw [he]; exact k2)
          (fun x e => by rw [hkf] at e; have := k8 _ (mem_lookup e); simp at this) (fun x e => by rw [hkf] at e; rw [he]; exact hcells _ x e) Xc (by rw [hm]; exact hr.1) (by rw [hm]; exact hr.2)
        refine ⟨(no_limit T S).keeps Xc.toInCall.keep, codeAny_func ?_⟩
        have R' : Room (env :: fs) (A.deeper env) n := ⟨by show A.depth + 1 + 10 * n < 900; have := R.depth; omega, by show A.units + 3 + 100 * n < 9000; have := R.units; omega, R.handled, by show A.frames.map (env :: ·) = _; rw [R.frames]; rfl⟩
        have T' : StatB (env :: fs) w env F := statB T (by rw [he]; rfl)
        refine wpAny_mono (soundSL R' body _ ss m H env F _ k9 hkf BC T' h F' s1 I B S1) (fun fl s2 z => ?_) fun _ _ z => z.elim
        obtain ⟨F2, m2, H2, I2, B2, S2, q⟩ := z
        refine ⟨_, H2, rfl, S2.back S B2.ext B2.os B2.sa, ?_⟩
        cases fl <;> exact q
    · cases hb0
  · cases k9
end
end Csp

namespace Csp
open PySem PySem.W PySem.Calls PyProof.Rows PySem.SeqAt Builtin Builtin.ObjectAttr
/-- Problem.__init__ -/
def b36 : SL := (.cons (.assignAttr (.loc "self") "_solver" (.or2 (.loc "solver") (.call (.lit (.ref 186)) .nil))) (.cons (.assignAttr (.loc "self") "_constraints" (.list .nil)) (.cons (.assignAttr (.loc "self") "_variables" .dict0) .nil)))
/-- Problem.addVariable -/
def b64 : SL := (.cons (.ife (.cmp .In (.loc "variable") (.attr (.loc "self") "_variables")) (.cons .bad (.cons .bad .nil)) .nil) (.cons (.ife (.bi .isLT (.cons (.loc "domain") .nil)) (.cons (.assign "domain" (.call (.lit (.ref 303)) (.cons (.loc "domain") .nil))) .nil) (.cons .bad (.cons .bad .nil))) (.cons (.ife (.not (.loc "domain")) (.cons .bad .nil) .nil) (.cons (.assignIdx (.attr (.loc "self") "_variables") (.loc "variable") (.loc "domain")) .nil))))
/-- Problem.addVariables -/
def b71 : SL := (.cons (.for1 ["variable"] (.loc "variables") (.cons (.expr (.meth (.loc "self") "addVariable" (.cons (.loc "variable") (.cons (.loc "domain") .nil)))) .nil) .nil) .nil)
/-- Problem.addConstraint -/
def b79 : SL := (.cons (.ife (.not (.bi .isCon (.cons (.loc "constraint") .nil))) (.cons .bad .nil) .nil) (.cons (.expr (.meth (.attr (.loc "self") "_constraints") "append" (.cons (.tup (.cons (.loc "constraint") (.cons (.loc "variables") .nil))) .nil))) .nil))
/-- Problem.getSolution -/
def b86 : SL := (.cons (.assignT ["domains", "constraints", "vconstraints"] (.meth (.loc "self") "_getArgs" .nil)) (.cons (.ife (.not (.loc "domains")) (.cons (.ret (.lit .none)) .nil) .nil) (.cons (.ret (.meth (.attr (.loc "self") "_solver") "getSolution" (.cons (.loc "domains") (.cons (.loc "constraints") (.cons (.loc "vconstraints") .nil))))) .nil)))
/-- Problem._getArgs -/
def b107 : SL := (.cons (.assign "domains" (.meth (.attr (.loc "self") "_variables") "copy" .nil)) (.cons (.assign "allvariables" (.bi .list (.cons (.loc "domains") .nil))) (.cons (.assign "constraints" (.list .nil)) (.cons (.for1 ["constraint", "variables"] (.attr (.loc "self") "_constraints") (.cons (.ife (.not (.loc "variables")) (.cons (.assign "variables" (.loc "allvariables")) .nil) .nil) (.cons (.expr (.meth (.loc "constraints") "append" (.cons (.tup (.cons (.loc "constraint") (.cons (.loc "variables") .nil))) .nil))) .nil)) .nil) (.cons (.assign "vconstraints" .dict0) (.cons (.for1 ["variable"] (.loc "domains") (.cons (.assignIdx (.loc "vconstraints") (.loc "variable") (.list .nil)) .nil) .nil) (.cons (.for1 ["constraint", "variables"] (.loc "constraints") (.cons (.for1 ["variable"] (.loc "variables") (.cons (.expr (.meth (.idx (.loc "vconstraints") (.loc "variable")) "append" (.cons (.tup (.cons (.loc "constraint") (.cons (.loc "variables") .nil))) .nil))) .nil) .nil) .nil) .nil) (.cons (.for1 ["constraint", "variables"] (.full (.loc "constraints")) (.cons (.expr (.meth (.loc "constraint") "preProcess" (.cons (.loc "variables") (.cons (.loc "domains") (.cons (.loc "constraints") (.cons (.loc "vconstraints") .nil)))))) .nil) .nil) (.cons (.for1 ["domain"] (.meth (.loc "domains") "values" .nil) (.cons (.expr (.meth (.loc "domain") "resetState" .nil)) (.cons (.ife (.not (.loc "domain")) (.cons (.ret (.tup (.cons (.lit .none) (.cons (.lit .none) (.cons (.lit .none) .nil))))) .nil) .nil) .nil)) .nil) (.cons (.ret (.tup (.cons (.loc "domains") (.cons (.loc "constraints") (.cons (.loc "vconstraints") .nil))))) .nil))))))))))
/-- BacktrackingSolver.__init__ -/
def b164 : SL := (.cons (.assignAttr (.loc "self") "_forwardcheck" (.loc "forwardcheck")) .nil)
/-- BacktrackingSolver.getSolutionIter -/
def b169 : SL := (.cons (.assign "forwardcheck" (.attr (.loc "self") "_forwardcheck")) (.cons (.assign "assignments" .dict0) (.cons (.assign "queue" (.list .nil)) (.cons (.whl (.lit (.bool true)) (.cons (.assign "lst" (.comp (.tup (.cons (.neg (.bi .len (.cons (.idx (.loc "vconstraints") (.loc "variable")) .nil))) (.cons (.bi .len (.cons (.idx (.loc "domains") (.loc "variable")) .nil)) (.cons (.loc "variable") .nil)))) "variable" (.loc "domains") .nil)) (.cons (.expr (.meth (.loc "lst") "sort" .nil)) (.cons (.for1 ["item"] (.loc "lst") (.cons (.ife (.cmp .NotIn (.idx (.loc "item") (.neg (.lit (.int 1)))) (.loc "assignments")) (.cons (.assign "variable" (.idx (.loc "item") (.neg (.lit (.int 1))))) (.cons (.assign "values" (.full (.idx (.loc "domains") (.loc "variable")))) (.cons (.ife (.loc "forwardcheck") (.cons (.assign "pushdomains" (.comp (.idx (.loc "domains") (.loc "x")) "x" (.loc "domains") (.cons (.and2 (.cmp .NotIn (.loc "x") (.loc "assignments")) (.cmp .NotEq (.loc "x") (.loc "variable"))) .nil))) .nil) (.cons (.assign "pushdomains" (.lit .none)) .nil)) (.cons .brk .nil)))) .nil) .nil) (.cons .bad (.cons (.ife (.not (.loc "queue")) (.cons .bad .nil) .nil) (.cons (.assignT ["variable", "values", "pushdomains"] (.meth (.loc "queue") "pop" .nil)) (.cons (.ife (.loc "pushdomains") (.cons (.for1 ["domain"] (.loc "pushdomains") (.cons (.expr (.meth (.loc "domain") "popState" .nil)) .nil) .nil) .nil) .nil) .nil))))) (.cons (.whl (.lit (.bool true)) (.cons (.ife (.not (.loc "values")) (.cons (.delIdx (.loc "assignments") (.loc "variable")) (.cons (.whl (.loc "queue") (.cons (.assignT ["variable", "values", "pushdomains"] (.meth (.loc "queue") "pop" .nil)) (.cons (.ife (.loc "pushdomains") (.cons (.for1 ["domain"] (.loc "pushdomains") (.cons (.expr (.meth (.loc "domain") "popState" .nil)) .nil) .nil) .nil) .nil) (.cons (.ife (.loc "values") (.cons .brk .nil) .nil) (.cons (.delIdx (.loc "assignments") (.loc "variable")) .nil)))) (.cons .bad .nil)) .nil)) .nil) (.cons (.assignIdx (.loc "assignments") (.loc "variable") (.meth (.loc "values") "pop" .nil)) (.cons (.ife (.loc "pushdomains") (.cons (.for1 ["domain"] (.loc "pushdomains") (.cons (.expr (.meth (.loc "domain") "pushState" .nil)) .nil) .nil) .nil) .nil) (.cons (.for1 ["constraint", "variables"] (.idx (.loc "vconstraints") (.loc "variable")) (.cons (.ife (.not (.call (.loc "constraint") (.cons (.loc "variables") (.cons (.loc "domains") (.cons (.loc "assignments") (.cons (.loc "pushdomains") .nil)))))) (.cons .brk .nil) .nil) .nil) (.cons .brk .nil)) (.cons (.ife (.loc "pushdomains") (.cons (.for1 ["domain"] (.loc "pushdomains") (.cons (.expr (.meth (.loc "domain") "popState" .nil)) .nil) .nil) .nil) .nil) .nil))))) .nil) (.cons (.expr (.meth (.loc "queue") "append" (.cons (.tup (.cons (.loc "variable") (.cons (.loc "values") (.cons (.loc "pushdomains") .nil)))) .nil))) .nil))))) .nil) (.cons .bad .nil)))))
/-- BacktrackingSolver.getSolution -/
def b176 : SL := (.cons (.assign "iter" (.meth (.loc "self") "getSolutionIter" (.cons (.loc "domains") (.cons (.loc "constraints") (.cons (.loc "vconstraints") .nil))))) (.cons .bad .nil))
/-- RecursiveBacktrackingSolver.__init__ -/
def b203 : SL := (.cons (.assignAttr (.loc "self") "_forwardcheck" (.loc "forwardcheck")) .nil)
/-- RecursiveBacktrackingSolver.recursiveBacktracking -/
def b208 : SL := (.cons (.assign "lst" (.comp (.tup (.cons (.neg (.bi .len (.cons (.idx (.loc "vconstraints") (.loc "variable")) .nil))) (.cons (.bi .len (.cons (.idx (.loc "domains") (.loc "variable")) .nil)) (.cons (.loc "variable") .nil)))) "variable" (.loc "domains") .nil)) (.cons (.expr (.meth (.loc "lst") "sort" .nil)) (.cons (.for1 ["item"] (.loc "lst") (.cons (.ife (.cmp .NotIn (.idx (.loc "item") (.neg (.lit (.int 1)))) (.loc "assignments")) (.cons .brk .nil) .nil) .nil) (.cons (.expr (.meth (.loc "solutions") "append" (.cons (.meth (.loc "assignments") "copy" .nil) .nil))) (.cons (.ret (.loc "solutions")) .nil))) (.cons (.assign "variable" (.idx (.loc "item") (.neg (.lit (.int 1))))) (.cons (.assignIdx (.loc "assignments") (.loc "variable") (.lit .none)) (.cons (.assign "forwardcheck" (.attr (.loc "self") "_forwardcheck")) (.cons (.ife (.loc "forwardcheck") (.cons (.assign "pushdomains" (.comp (.idx (.loc "domains") (.loc "x")) "x" (.loc "domains") (.cons (.cmp .NotIn (.loc "x") (.loc "assignments")) .nil))) .nil) (.cons (.assign "pushdomains" (.lit .none)) .nil)) (.cons (.for1 ["value"] (.idx (.loc "domains") (.loc "variable")) (.cons (.assignIdx (.loc "assignments") (.loc "variable") (.loc "value")) (.cons (.ife (.loc "pushdomains") (.cons (.for1 ["domain"] (.loc "pushdomains") (.cons (.expr (.meth (.loc "domain") "pushState" .nil)) .nil) .nil) .nil) .nil) (.cons (.for1 ["constraint", "variables"] (.idx (.loc "vconstraints") (.loc "variable")) (.cons (.ife (.not (.call (.loc "constraint") (.cons (.loc "variables") (.cons (.loc "domains") (.cons (.loc "assignments") (.cons (.loc "pushdomains") .nil)))))) (.cons .brk .nil) .nil) .nil) (.cons (.expr (.meth (.loc "self") "recursiveBacktracking" (.cons (.loc "solutions") (.cons (.loc "domains") (.cons (.loc "vconstraints") (.cons (.loc "assignments") (.cons (.loc "single") .nil))))))) (.cons (.ife (.and2 (.loc "solutions") (.loc "single")) (.cons (.ret (.loc "solutions")) .nil) .nil) .nil))) (.cons (.ife (.loc "pushdomains") (.cons (.for1 ["domain"] (.loc "pushdomains") (.cons (.expr (.meth (.loc "domain") "popState" .nil)) .nil) .nil) .nil) .nil) .nil)))) .nil) (.cons (.delIdx (.loc "assignments") (.loc "variable")) (.cons (.ret (.loc "solutions")) .nil))))))))))
/-- RecursiveBacktrackingSolver.getSolution -/
def b215 : SL := (.cons (.assign "solutions" (.meth (.loc "self") "recursiveBacktracking" (.cons (.list .nil) (.cons (.loc "domains") (.cons (.loc "vconstraints") (.cons .dict0 (.cons (.lit (.bool true)) .nil))))))) (.cons (.ret (.or2 (.and2 (.loc "solutions") (.idx (.loc "solutions") (.lit (.int 0)))) (.lit .none))) .nil))
/-- Domain.__init__ -/
def b272 : SL := (.cons (.expr (.meth (.lit (.other (.type "list"))) "__init__" (.cons (.loc "self") (.cons (.loc "values") .nil)))) (.cons (.assignAttr (.loc "self") "_hidden" (.list .nil)) (.cons (.assignAttr (.loc "self") "_states" (.list .nil)) .nil)))
/-- Domain.resetState -/
def b279 : SL := (.cons (.expr (.meth (.loc "self") "extend" (.cons (.attr (.loc "self") "_hidden") .nil))) (.cons (.delFull (.attr (.loc "self") "_hidden")) (.cons (.delFull (.attr (.loc "self") "_states")) .nil)))
/-- Domain.pushState -/
def b286 : SL := (.cons (.expr (.meth (.attr (.loc "self") "_states") "append" (.cons (.bi .len (.cons (.loc "self") .nil)) .nil))) .nil)
/-- Domain.popState -/
def b293 : SL := (.cons (.assign "diff" (.bin .Sub (.meth (.attr (.loc "self") "_states") "pop" .nil) (.bi .len (.cons (.loc "self") .nil)))) (.cons (.ife (.loc "diff") (.cons (.expr (.meth (.loc "self") "extend" (.cons (.tail (.attr (.loc "self") "_hidden") (.neg (.loc "diff"))) .nil))) (.cons (.delTail (.attr (.loc "self") "_hidden") (.neg (.loc "diff"))) .nil)) .nil) .nil))
/-- Domain.hideValue -/
def b300 : SL := (.cons (.expr (.meth (.loc "self") "remove" (.cons (.loc "value") .nil))) (.cons (.expr (.meth (.attr (.loc "self") "_hidden") "append" (.cons (.loc "value") .nil))) .nil))
/-- Constraint.__eq__ -/
def b321 : SL := (.cons (.ret (.and2 (.bi .isCon (.cons (.loc "other") .nil)) (.cmp .Is (.loc "self") (.loc "other")))) .nil)
/-- Constraint.preProcess -/
def b336 : SL := (.cons (.ife (.cmp .Eq (.bi .len (.cons (.loc "variables") .nil)) (.lit (.int 1))) (.cons (.assign "variable" (.idx (.loc "variables") (.lit (.int 0)))) (.cons (.assign "domain" (.idx (.loc "domains") (.loc "variable"))) (.cons (.for1 ["value"] (.full (.loc "domain")) (.cons (.ife (.not (.call (.loc "self") (.cons (.loc "variables") (.cons (.loc "domains") (.cons (.dict1 (.loc "variable") (.loc "value")) (.cons (.lit (.bool false)) .nil)))))) (.cons (.expr (.meth (.loc "domain") "remove" (.cons (.loc "value") .nil))) .nil) .nil) .nil) .nil) (.cons (.expr (.meth (.loc "constraints") "remove" (.cons (.tup (.cons (.loc "self") (.cons (.loc "variables") .nil))) .nil))) (.cons (.expr (.meth (.idx (.loc "vconstraints") (.loc "variable")) "remove" (.cons (.tup (.cons (.loc "self") (.cons (.loc "variables") .nil))) .nil))) .nil))))) .nil) .nil)
/-- MaxSumConstraint.__init__ -/
def b392 : SL := (.cons (.assignAttr (.loc "self") "_maxsum" (.loc "maxsum")) (.cons (.assignAttr (.loc "self") "_multipliers" (.loc "multipliers")) .nil))
/-- MaxSumConstraint.preProcess -/
def b399 : SL := (.cons (.expr (.meth (.lit (.ref 347)) "preProcess" (.cons (.loc "self") (.cons (.loc "variables") (.cons (.loc "domains") (.cons (.loc "constraints") (.cons (.loc "vconstraints") .nil))))))) (.cons (.assign "multipliers" (.attr (.loc "self") "_multipliers")) (.cons (.assign "maxsum" (.attr (.loc "self") "_maxsum")) (.cons (.ife (.loc "multipliers") (.cons .bad .nil) (.cons (.for1 ["variable"] (.loc "variables") (.cons (.assign "domain" (.idx (.loc "domains") (.loc "variable"))) (.cons (.for1 ["value"] (.full (.loc "domain")) (.cons (.ife (.cmp .Gt (.loc "value") (.loc "maxsum")) (.cons (.expr (.meth (.loc "domain") "remove" (.cons (.loc "value") .nil))) .nil) .nil) .nil) .nil) .nil)) .nil) .nil)) .nil))))
/-- MaxSumConstraint.__call__ -/
def b407 : SL := (.cons (.assign "multipliers" (.attr (.loc "self") "_multipliers")) (.cons (.assign "maxsum" (.attr (.loc "self") "_maxsum")) (.cons (.assign "sum" (.lit (.int 0))) (.cons (.ife (.loc "multipliers") (.cons .bad (.cons (.ife (.cmp .Gt (.loc "sum") (.loc "maxsum")) (.cons (.ret (.lit (.bool false))) .nil) .nil) (.cons (.ife (.loc "forwardcheck") (.cons .bad .nil) .nil) .nil))) (.cons (.for1 ["variable"] (.loc "variables") (.cons (.ife (.cmp .In (.loc "variable") (.loc "assignments")) (.cons (.aug "sum" .Add (.idx (.loc "assignments") (.loc "variable"))) .nil) .nil) .nil) .nil) (.cons (.ife (.cmp .Gt (.loc "sum") (.loc "maxsum")) (.cons (.ret (.lit (.bool false))) .nil) .nil) (.cons (.ife (.loc "forwardcheck") (.cons (.for1 ["variable"] (.loc "variables") (.cons (.ife (.cmp .NotIn (.loc "variable") (.loc "assignments")) (.cons (.assign "domain" (.idx (.loc "domains") (.loc "variable"))) (.cons (.for1 ["value"] (.full (.loc "domain")) (.cons (.ife (.cmp .Gt (.bin .Add (.loc "sum") (.loc "value")) (.loc "maxsum")) (.cons (.expr (.meth (.loc "domain") "hideValue" (.cons (.loc "value") .nil))) .nil) .nil) .nil) .nil) (.cons (.ife (.not (.loc "domain")) (.cons (.ret (.lit (.bool false))) .nil) .nil) .nil))) .nil) .nil) .nil) .nil) .nil) .nil)))) (.cons (.ret (.lit (.bool true))) .nil)))))
/-- MinSumConstraint.__init__ -/
def b427 : SL := (.cons (.assignAttr (.loc "self") "_minsum" (.loc "minsum")) (.cons (.assignAttr (.loc "self") "_multipliers" (.loc "multipliers")) .nil))
/-- MinSumConstraint.__call__ -/
def b435 : SL := (.cons (.for1 ["variable"] (.loc "variables") (.cons (.ife (.cmp .NotIn (.loc "variable") (.loc "assignments")) (.cons (.ret (.lit (.bool true))) .nil) .nil) .nil) (.cons (.assign "multipliers" (.attr (.loc "self") "_multipliers")) (.cons (.assign "minsum" (.attr (.loc "self") "_minsum")) (.cons (.assign "sum" (.lit (.int 0))) (.cons (.ife (.loc "multipliers") (.cons .bad .nil) (.cons (.for1 ["variable"] (.loc "variables") (.cons (.aug "sum" .Add (.idx (.loc "assignments") (.loc "variable"))) .nil) .nil) .nil)) (.cons (.ret (.cmp .GtE (.loc "sum") (.loc "minsum"))) .nil)))))) .nil)
/-- SomeInSetConstraint.__init__ -/
def b455 : SL := (.cons (.assignAttr (.loc "self") "_set" (.loc "members")) (.cons (.assignAttr (.loc "self") "_n" (.loc "n")) (.cons (.assignAttr (.loc "self") "_exact" (.loc "exact")) .nil)))
/-- SomeInSetConstraint.__call__ -/
def b463 : SL := (.cons (.assign "missing" (.lit (.int 0))) (.cons (.assign "found" (.lit (.int 0))) (.cons (.for1 ["variable"] (.loc "variables") (.cons (.ife (.cmp .In (.loc "variable") (.loc "assignments")) (.cons (.aug "found" .Add (.cmp .In (.idx (.loc "assignments") (.loc "variable")) (.attr (.loc "self") "_set"))) .nil) (.cons (.aug "missing" .Add (.lit (.int 1))) .nil)) .nil) .nil) (.cons (.ife (.loc "missing") (.cons (.ife (.attr (.loc "self") "_exact") (.cons .bad .nil) (.cons (.ife (.cmp .Gt (.attr (.loc "self") "_n") (.bin .Add (.loc "missing") (.loc "found"))) (.cons (.ret (.lit (.bool false))) .nil) .nil) .nil)) (.cons (.ife (.and2 (.loc "forwardcheck") (.cmp .Eq (.bin .Sub (.attr (.loc "self") "_n") (.loc "found")) (.loc "missing"))) (.cons (.for1 ["variable"] (.loc "variables") (.cons (.ife (.cmp .NotIn (.loc "variable") (.loc "assignments")) (.cons (.assign "domain" (.idx (.loc "domains") (.loc "variable"))) (.cons (.for1 ["value"] (.full (.loc "domain")) (.cons (.ife (.cmp .NotIn (.loc "value") (.attr (.loc "self") "_set")) (.cons (.expr (.meth (.loc "domain") "hideValue" (.cons (.loc "value") .nil))) .nil) .nil) .nil) .nil) (.cons (.ife (.not (.loc "domain")) (.cons (.ret (.lit (.bool false))) .nil) .nil) .nil))) .nil) .nil) .nil) .nil) .nil) .nil)) (.cons (.ife (.attr (.loc "self") "_exact") (.cons (.ife (.cmp .NotEq (.loc "found") (.attr (.loc "self") "_n")) (.cons (.ret (.lit (.bool false))) .nil) .nil) .nil) (.cons (.ife (.cmp .Lt (.loc "found") (.attr (.loc "self") "_n")) (.cons (.ret (.lit (.bool false))) .nil) .nil) .nil)) .nil)) (.cons (.ret (.lit (.bool true))) .nil)))))
/-- _law_number -/
def b475 : SL := (.cons (.ret (.ite (.cmp .Lt (.loc "k") (.bi .len (.cons (.loc "script") .nil))) (.idx (.loc "script") (.loc "k")) (.bin .Mult (.lit (.int 7)) (.loc "k")))) .nil)
/-- _law_edges -/
def b480 : SL := (.cons (.assign "problem" (.call (.lit (.ref 110)) (.cons (.loc "solver") .nil))) (.cons (.expr (.meth (.loc "problem") "addVariables" (.cons (.bi .range (.cons (.bi .len (.cons (.loc "edges") .nil)) .nil)) (.cons (.list (.cons (.lit (.int 0)) (.cons (.lit (.int 1)) .nil))) .nil)))) (.cons (.for1 ["point"] (.bi .range (.cons (.lit (.int 6)) .nil)) (.cons (.assign "ends" (.comp (.loc "k") "k" (.bi .range (.cons (.bi .len (.cons (.loc "edges") .nil)) .nil)) (.cons (.cmp .In (.loc "point") (.idx (.loc "edges") (.loc "k"))) .nil))) (.cons (.ife (.cmp .NotEq (.loc "ends") (.list .nil)) (.cons (.expr (.meth (.loc "problem") "addConstraint" (.cons (.call (.lit (.ref 410)) (.cons (.lit (.int 1)) .nil)) (.cons (.loc "ends") .nil)))) .nil) .nil) .nil)) .nil) (.cons (.expr (.meth (.loc "problem") "addConstraint" (.cons (.call (.lit (.ref 438)) (.cons (.loc "n") .nil)) .nil))) (.cons (.ret (.meth (.loc "problem") "getSolution" .nil)) .nil)))))
/-- _law_points -/
def b487 : SL := (.cons (.assign "problem" (.call (.lit (.ref 110)) (.cons (.loc "solver") .nil))) (.cons (.expr (.meth (.loc "problem") "addVariables" (.cons (.bi .range (.cons (.lit (.int 6)) .nil)) (.cons (.list (.cons (.lit (.int 0)) (.cons (.lit (.int 1)) .nil))) .nil)))) (.cons (.for1 ["edge"] (.loc "edges") (.cons (.expr (.meth (.loc "problem") "addConstraint" (.cons (.ite (.loc "kind") (.call (.lit (.ref 466)) (.cons (.list (.cons (.lit (.int 1)) .nil)) .nil)) (.call (.lit (.ref 438)) (.cons (.lit (.int 1)) .nil))) (.cons (.bi .list (.cons (.loc "edge") .nil)) .nil)))) .nil) .nil) (.cons (.expr (.meth (.loc "problem") "addConstraint" (.cons (.call (.lit (.ref 410)) (.cons (.bin .Sub (.loc "n") (.lit (.int 1))) .nil)) .nil))) (.cons (.ret (.meth (.loc "problem") "getSolution" .nil)) .nil)))))
/-- law -/
def b492 : SL := (.cons (.assign "solvers" (.list (.cons (.call (.lit (.ref 186)) .nil) (.cons (.call (.lit (.ref 225)) .nil) (.cons (.call (.lit (.ref 186)) (.cons (.lit (.bool false)) .nil)) (.cons (.call (.lit (.ref 225)) (.cons (.lit (.bool false)) .nil)) .nil)))))) (.cons (.assign "edges" (.list .nil)) (.cons (.for1 ["k"] (.bi .range (.cons (.bin .Mod (.call (.lit (.ref 475)) (.cons (.loc "script") (.cons (.lit (.int 2)) .nil))) (.lit (.int 6))) .nil)) (.cons (.assign "u" (.call (.lit (.ref 475)) (.cons (.loc "script") (.cons (.bin .Add (.lit (.int 3)) (.loc "k")) .nil)))) (.cons (.ife (.cmp .NotIn (.list (.cons (.bin .Mod (.loc "u") (.lit (.int 3))) (.cons (.bin .Add (.lit (.int 3)) (.bin .Mod (.bin .FloorDiv (.loc "u") (.lit (.int 3))) (.lit (.int 3)))) .nil))) (.loc "edges")) (.cons (.expr (.meth (.loc "edges") "append" (.cons (.list (.cons (.bin .Mod (.loc "u") (.lit (.int 3))) (.cons (.bin .Add (.lit (.int 3)) (.bin .Mod (.bin .FloorDiv (.loc "u") (.lit (.int 3))) (.lit (.int 3)))) .nil))) .nil))) .nil) .nil) .nil)) .nil) (.cons (.for1 ["n"] (.bi .range2 (.cons (.lit (.int 1)) (.cons (.lit (.int 4)) .nil))) (.cons (.assign "chosen" (.call (.lit (.ref 480)) (.cons (.idx (.loc "solvers") (.bin .Mod (.call (.lit (.ref 475)) (.cons (.loc "script") (.cons (.lit (.int 0)) .nil))) (.lit (.int 4)))) (.cons (.loc "edges") (.cons (.loc "n") .nil))))) (.cons (.assign "points" (.call (.lit (.ref 487)) (.cons (.idx (.loc "solvers") (.bin .Mod (.call (.lit (.ref 475)) (.cons (.loc "script") (.cons (.lit (.int 1)) .nil))) (.lit (.int 4)))) (.cons (.loc "edges") (.cons (.loc "n") (.cons (.bin .Mod (.bin .FloorDiv (.call (.lit (.ref 475)) (.cons (.loc "script") (.cons (.lit (.int 0)) .nil))) (.lit (.int 4))) (.lit (.int 2))) .nil)))))) (.cons (.ife (.cmp .Eq (.cmp .Is (.loc "chosen") (.lit .none)) (.cmp .Is (.loc "points") (.lit .none))) (.cons (.ret (.lit (.bool false))) .nil) .nil) (.cons (.ife (.cmp .Is (.loc "points") (.lit .none)) (.cons (.assign "ends" (.comp2 (.loc "point") "k" (.bi .range (.cons (.bi .len (.cons (.loc "edges") .nil)) .nil)) "point" (.idx (.loc "edges") (.loc "k")) (.cmp .NotEq (.idx (.loc "chosen") (.loc "k")) (.lit (.int 0))))) (.cons (.ife (.or2 (.cmp .Lt (.bi .len (.cons (.loc "ends") .nil)) (.bin .Mult (.lit (.int 2)) (.loc "n"))) (.cmp .NotEq (.bi .lenset (.cons (.loc "ends") .nil)) (.bi .len (.cons (.loc "ends") .nil)))) (.cons (.ret (.lit (.bool false))) .nil) .nil) .nil)) (.cons (.assign "some" (.comp (.loc "point") "point" (.bi .range (.cons (.lit (.int 6)) .nil)) (.cons (.cmp .NotEq (.idx (.loc "points") (.loc "point")) (.lit (.int 0))) .nil))) (.cons (.ife (.or2 (.cmp .GtE (.bi .len (.cons (.loc "some") .nil)) (.loc "n")) (.cmp .NotEq (.comp (.loc "edge") "edge" (.loc "edges") (.cons (.and2 (.cmp .NotIn (.idx (.loc "edge") (.lit (.int 0))) (.loc "some")) (.cmp .NotIn (.idx (.loc "edge") (.lit (.int 1))) (.loc "some"))) .nil)) (.list .nil))) (.cons (.ret (.lit (.bool false))) .nil) .nil) .nil))) .nil)))) .nil) (.cons (.ret (.lit (.bool true))) .nil)))))
theorem ok36 (w : World) : fnOk w 36 b36 = true := by kernel_rfl
theorem ok64 (w : World) : fnOk w 64 b64 = true := by kernel_rfl
theorem ok71 (w : World) : fnOk w 71 b71 = true := by kernel_rfl
theorem ok79 (w : World) : fnOk w 79 b79 = true := by kernel_rfl
theorem ok86 (w : World) : fnOk w 86 b86 = true := by kernel_rfl
theorem ok107 (w : World) : fnOk w 107 b107 = true := by kernel_rfl
theorem ok164 (w : World) : fnOk w 164 b164 = true := by kernel_rfl
theorem ok203 (w : World) : fnOk w 203 b203 = true := by kernel_rfl
theorem ok208 (w : World) : fnOk w 208 b208 = true := by kernel_rfl
theorem ok215 (w : World) : fnOk w 215 b215 = true := by kernel_rfl
theorem ok272 (w : World) : fnOk w 272 b272 = true := by kernel_rfl
theorem ok279 (w : World) : fnOk w 279 b279 = true := by kernel_rfl
theorem ok286 (w : World) : fnOk w 286 b286 = true := by kernel_rfl
theorem ok293 (w : World) : fnOk w 293 b293 = true := by kernel_rfl
theorem ok300 (w : World) : fnOk w 300 b300 = true := by kernel_rfl
theorem ok321 (w : World) : fnOk w 321 b321 = true := by kernel_rfl
theorem ok336 (w : World) : fnOk w 336 b336 = true := by kernel_rfl
theorem ok392 (w : World) : fnOk w 392 b392 = true := by kernel_rfl
theorem ok399 (w : World) : fnOk w 399 b399 = true := by kernel_rfl
theorem ok407 (w : World) : fnOk w 407 b407 = true := by kernel_rfl
theorem ok427 (w : World) : fnOk w 427 b427 = true := by kernel_rfl
theorem ok435 (w : World) : fnOk w 435 b435 = true := by kernel_rfl
theorem ok455 (w : World) : fnOk w 455 b455 = true := by kernel_rfl
theorem ok463 (w : World) : fnOk w 463 b463 = true := by kernel_rfl
theorem ok475 (w : World) : fnOk w 475 b475 = true := by kernel_rfl
theorem ok480 (w : World) : fnOk w 480 b480 = true := by kernel_rfl
theorem ok487 (w : World) : fnOk w 487 b487 = true := by kernel_rfl
theorem ok492 (w : World) : fnOk w 492 b492 = true := by kernel_rfl
end Csp

namespace Csp
open PySem PySem.W PySem.Calls PyProof.Rows PySem.SeqAt Builtin Builtin.ObjectAttr

/-- every end of a tree of questions -/
def AllRet {α : Type} (n : Nat) (P : α → Prop) : KasT α → Prop
  | .ret a => P a
  | .ask i j k => i < n ∧ j < n ∧ ∀ b, AllRet n P (k b)
theorem AllRet.bind {α β : Type} {n : Nat} {P : α → Prop} {P' : β → Prop} {f : α → KasT β} : ∀ (t : KasT α), AllRet n P t → (∀ a, P a → AllRet n P' (f a)) → AllRet n P' (t.bind f)
  | .ret a, h, hf => hf a h
  | .ask i j k, h, hf => ⟨h.1, h.2.1, fun b => AllRet.bind (k b) (h.2.2 b) hf⟩
theorem AllRet.mono {α : Type} {n : Nat} {P P' : α → Prop} : ∀ (t : KasT α), AllRet n P t → (∀ a, P a → P' a) → AllRet n P' t
  | .ret a, h, hf => hf a h
  | .ask i j k, h, hf => ⟨h.1, h.2.1, fun b => AllRet.mono (k b) (h.2.2 b) hf⟩
theorem AllRet.ite {α : Type} {n : Nat} {P : α → Prop} {c : Prop} [Decidable c] {a b : KasT α} (ha : AllRet n P a) (hb : AllRet n P b) : AllRet n P (if c then a else b) := by
  split
  · exact ha
  · exact hb

/-- the numbers below n in some order -/
def IsP (n : Nat) (p : Array Nat) : Prop := p.toList.Perm (List.range n)
theorem IsP.getD {n : Nat} {p : Array Nat} (h : IsP n p) (hn : 0 < n) (i : Nat) : p.getD i 0 < n := by
  by_cases hi : i < p.size
  · have e : p.getD i 0 = p[i] := by simp [Array.getD, hi]
    rw [e]
    have : p[i] ∈ p.toList := by simp
    exact List.mem_range.mp (h.mem_iff.mp this)
  · have e : p.getD i 0 = 0 := by simp [Array.getD, hi]
    rw [e]; exact hn
theorem IsP.rev {n : Nat} {p : Array Nat} (h : IsP n p) (i j : Nat) : IsP n (kas_rev p i j) := (Array.perm_iff_toList_perm.mp (mirror_perm p i j _)).trans h
theorem IsP.bub {n : Nat} {p : Array Nat} (h : IsP n p) (i j : Nat) : IsP n (bubble p i j) := (Array.perm_iff_toList_perm.mp (bubble_perm p i j)).trans h

theorem all_asc {n : Nat} (hn : 0 < n) {p : Array Nat} (h : IsP n p) : ∀ (f m : Nat), AllRet n (fun _ => True) (kas_asc p f m)
  | 0, m => trivial
  | f + 1, m => ⟨h.getD hn _, h.getD hn _, fun b => AllRet.ite trivial (all_asc hn h f (m + 1))⟩
theorem all_desc {n : Nat} (hn : 0 < n) : ∀ (f : Nat) (p : Array Nat) (m q : Nat), IsP n p → AllRet n (fun r => IsP n r.1) (kas_desc f p m q)
  | 0, p, m, q, h => h
  | f + 1, p, m, q, h => ⟨h.getD hn _, h.getD hn _, fun b => AllRet.ite (AllRet.ite (all_desc hn f _ _ _ (h.rev _ _)) (all_desc hn f _ _ _ h)) ⟨h.getD hn _, h.getD hn _, fun b => AllRet.ite h (all_desc hn f _ _ _ h)⟩⟩
theorem all_tail3 {n : Nat} (hn : 0 < n) {p : Array Nat} (h : IsP n p) (a b : Nat) : AllRet n (fun r => IsP n r.2) (kas_tail3 a b p) :=
  AllRet.bind _ (all_asc hn (h.rev _ _) _ _) fun m _ => h.rev _ _
theorem all_descPart {n : Nat} (hn : 0 < n) {p : Array Nat} (h : IsP n p) (a b : Nat) : AllRet n (fun r => IsP n r.2) (kas_descPart a b p) :=
  AllRet.bind _ (all_desc hn _ _ _ _ h) fun r hr => AllRet.ite (all_tail3 hn (hr.rev _ _) _ _) (all_tail3 hn hr _ _)
theorem all_count {n : Nat} (hn : 0 < n) {p : Array Nat} (h : IsP n p) (a : Nat) : AllRet n (fun r => IsP n r.2) (kas_count a p) :=
  AllRet.bind _ (all_asc hn h _ _) fun m _ => AllRet.ite h (AllRet.ite ⟨h.getD hn _, h.getD hn _, fun b => AllRet.ite h (all_descPart hn (h.rev _ _) _ _)⟩ (all_descPart hn h _ _))
theorem all_place {n : Nat} (hn : 0 < n) {p : Array Nat} (h : IsP n p) (k : Nat) : ∀ (f l r : Nat), AllRet n (fun _ => True) (kas_place p k f l r)
  | 0, l, r => trivial
  | f + 1, l, r => AllRet.ite trivial ⟨h.getD hn _, h.getD hn _, fun b => AllRet.ite (all_place hn h k f _ _) (all_place hn h k f _ _)⟩
theorem all_bin {n : Nat} (hn : 0 < n) : ∀ (f : Nat) (p : Array Nat) (k : Nat), IsP n p → AllRet n (IsP n) (kas_bin f p k)
  | 0, p, k, h => h
  | f + 1, p, k, h => AllRet.bind _ (all_place hn h k _ _ _) fun l _ => all_bin hn f _ _ (h.bub _ _)
theorem all_sort {n : Nat} (hn : 0 < n) : AllRet n (IsP n) (kas_sort n) :=
  AllRet.bind _ (all_count hn (p := (List.range n).toArray) (List.Perm.refl _) _) fun r hr => AllRet.ite (all_bin hn _ _ _ hr) hr

theorem all_wp {α : Type} {n : Nat} {P : α → Prop} {cmp : Nat → Nat → (Bool → Shared → Prop) → Shared → Prop} {s : Shared} (hc : ∀ i j C, i < n → j < n → (∀ b, C b s) → cmp i j C s) :
    ∀ (t : KasT α), AllRet n P t → t.kasWp cmp (fun a s' => P a ∧ s' = s) s
  | .ret a, h => ⟨h, rfl⟩
  | .ask i j k, h => hc i j _ h.1 h.2.1 fun b => all_wp hc (k b) (h.2.2 b)

section
variable {prog : Program} {w : World} {fs : List Env} {A : Around} {F F0 : FF} {H : Hp} {s : Shared} {n : Nat}

/-- a tuple of three ints -/
def Trip (h : Heap) (v : Value) : Prop := ∃ a n x y z t u r, v = .ref a ∧ h.get? a = some (tupO #[.int x t, .int y u, .int z r] n)

theorem lt_trip {x y : Value} (hu : A.units < cLine) (hx : Trip s.heap x) (hy : Trip s.heap y) {C : Bool → Shared → Prop} {E : Value → Shared → Prop} (h : ∀ b, C b s) : wpAny (model prog w) A (keyLt' (tuples' true) x y) C E s := by
  obtain ⟨a, n, x1, x2, x3, t1, t2, t3, rfl, ha⟩ := hx
  obtain ⟨b, m, y1, y2, y3, u1, u2, u3, rfl, hb⟩ := hy
  refine kat_lt ha rfl hb rfl ?_
  have one : ∀ (i j : Int) (t u : Tok) (b : Bool), wpAny (model prog w) A (oneLt' b (.int i t) (.int j u)) C (fun _ _ => False) s := by
    intro i j t u b
    cases b
    · exact kat_one _ _ (P.lt_int (h _))
    · exact kat_lt_int (h _)
  have eq : ∀ (i j : Int) (t u : Tok) {R : Bool → Shared → Prop}, (∀ b, R b s) → wpAny (model prog w) A (eqBool (.int i t) (.int j u)) R (fun _ _ => False) s := fun i j t u R hR =>
    (PySem.MeetsSeq.EqGives.int i j t u).at A s prog w _ _ (hR _)
  refine kat_cons (eq _ _ _ _ fun b => kat_go (fun e => ?_) fun e => ?_)
  · exact kat_yes (kat_cons (eq _ _ _ _ fun b => kat_go (fun e => kat_yes (kat_cons (eq _ _ _ _ fun b => kat_go (fun e => kat_yes (kat_nil (h _))) fun e => kat_no (one _ _ _ _ _)))) fun e => kat_no (one _ _ _ _ _)))
  · exact kat_no (one _ _ _ _ _)

theorem trip_of {v : Value} (S : St prog w F H s) (h : (keyOf H (ab v)).isSome = true) : Trip s.heap v := by
  unfold keyOf at h
  split at h
  · rename_i a e
    obtain rfl := ab_ref e
    split at h
    · rename_i x y z hx
      obtain ⟨o, h1, items, m, rfl, h2, h3⟩ := S.get hx
      have hl := abl_length items
      rw [h2] at hl
      obtain ⟨l⟩ := items
      match l, h2, hl with
      | [p, q, r], h2, _ =>
        simp only [abl, List.map_cons, List.map_nil, List.cons.injEq, and_true] at h2
        obtain ⟨e1, e2, e3⟩ := h2
        obtain ⟨t, rfl⟩ := ab_int e1
        obtain ⟨u, rfl⟩ := ab_int e2
        obtain ⟨v, rfl⟩ := ab_int e3
        exact ⟨a, m, x, y, z, t, u, v, rfl, h1⟩
    · cases h
  · cases h

theorem perm_out {vs : List Value} {p : Array Nat} (h : IsP vs.length p) : (p.toList.map fun i => vs.getD i Value.none).Perm vs := by
  have h1 := h.map (fun i => vs.getD i Value.none)
  have h2 : (List.range vs.length).map (fun i => vs.getD i Value.none) = vs := by
    refine List.ext_getElem (by simp) fun i h1 h2 => ?_
    simp at h1 ⊢
    simp [h1]
  rw [h2] at h1
  exact h1

theorem katTups_of {h : Heap} : ∀ vs : List Value, (∀ v ∈ vs, Trip h v) → ∃ fs, KatTups h vs fs ∧ fs.length = vs.length ∧ ∀ f ∈ fs, ∃ i t, f = .int i t
  | [], _ => ⟨[], KatTups.nil, rfl, fun f hf => by cases hf⟩
  | v :: r, trips => by
    obtain ⟨fs, i1, i2, i3⟩ := katTups_of r (fun v hv => trips v (List.mem_cons_of_mem _ hv))
    obtain ⟨b, k, x, y, z, t, u, q, rfl, hb⟩ := trips v List.mem_cons_self
    refine ⟨.int x t :: fs, KatTups.cons hb rfl rfl rfl i1, by simp [i2], fun f hf => ?_⟩
    rcases List.mem_cons.mp hf with rfl | hf
    · exact ⟨_, _, rfl⟩
    · exact i3 f hf

/-- list.sort of triples -/
theorem cx_sort {o : AV} {Q : AV → Hp → Prop} (h : sortP o Q H) : CX prog w n (.other (.builtin "list.sort")) [o] Q H := by
  intro fs A F fv vv s R T e1 e2 S
  obtain rfl := ab_other e1
  obtain ⟨u, r, rfl, e3, e4⟩ := List.map_eq_cons_iff.mp e2
  obtain rfl := List.map_eq_nil_iff.mp e4
  unfold sortP at h
  split at h
  · rename_i a
    obtain rfl := ab_ref e3
    split at h
    · rename_i xs hx
      obtain ⟨hz, hk, h⟩ := h
      obtain ⟨C, od, items, m, sl, h1, rfl, h3, h4, _, up⟩ := (IsSeq.list xs).get S hx
      have h1' := isListObj h1 (h4 ⟨_, rfl⟩)
      rw [abl_length] at hz
      obtain ⟨vs⟩ := items
      have hvl : vs.length ≤ 6 := hz
      refine codeAny_call_builtin slot_list_sort.plain entry_list_sort (slot_list_sort.check _ _ _ _ _ _ _ _ ⟨_, h1', rfl⟩ (args_list_sort _) ?_)
      have S1 := up (fun _ => #[]) s.toks (Nat.zero_le _)
      have S3 := (S1.push (seqObj "tuple" vs.toArray 0)).push (seqObj "list" #[] 0)
      have ha1 : (upd H a (AO.list (abl #[]))) a = some (AO.list []) := upd_self ..
      obtain ⟨e1', ho1⟩ : ∃ e1, (s.heap.update a (Obj.mapSeq fun _ => (#[] : Array Value))).get? a = some (seqObj "list" #[] e1) := ⟨_, get?_update_seq h1' fun _ => #[]⟩
      have ho3 : (((s.heap.update a (Obj.mapSeq fun _ => (#[] : Array Value))).push (seqObj "tuple" vs.toArray 0)).push (seqObj "list" #[] 0)).get? a = some (seqObj "list" #[] e1') := Heap.get?_push_of_some _ (Heap.get?_push_of_some _ ho1)
      rw [list_sort_plain]
      refine wpAny_bind (listItems_at h1' rfl ?_)
      refine wpAny_bind (listUpdate_at h1' rfl ?_ (Nat.le_trans h3 big_line) (Nat.zero_le _))
      refine wpAny_bind (seqEpoch_at ho1 rfl ?_)
      refine wpAny_bind (wpAny_newTuple ?_ (by show vs.length ≤ _; rw [sizeLine_eq]; omega))
      refine wpAny_bind (wpAny_newList ?_ (Nat.zero_le _))
      refine wpAny_holding ?_
      generalize hs3 : ({ s with heap := ((s.heap.update a (Obj.mapSeq fun _ => (#[] : Array Value))).push (seqObj "tuple" vs.toArray 0)).push (seqObj "list" #[] 0) } : Shared) = s3
      have S3' : St prog w F (upd H a (AO.list (abl #[]))) s3 := hs3 ▸ S3
      have ho3' : s3.heap.get? a = some (seqObj "list" #[] e1') := by rw [← hs3]; exact ho3
      have keep3 : ∀ b o, b ≠ a → s.heap.get? b = some o → s3.heap.get? b = some o := fun b o hb e => by
        rw [← hs3]
        exact Heap.get?_push_of_some _ (Heap.get?_push_of_some _ ((Heap.SameBut.update s.heap a _).extBut b o hb e))
      have goalEq : wpAny (model prog w) A.in1 (do
          let kind ← if vs.toArray.size < 2 then pure general' else keyKind' vs.toArray
          let ((), s) ← (if vs.toArray.size < 2 then pure () else sortRuns').run (SortSt.mk' kind (vs.toArray.zip vs.toArray) #[] 7 none)
          let sorted := (arrOf s).map (·.2)
          let touched := (← seqEpoch a) != e1'
          Builtin.List.listUpdate (.ref a) fun _ => sorted
          if let some e := failedOf s then rule "list.sort.comparison-raised"; throw e
          if touched then rule "list.sort.modified"; raiseError "ValueError" "list modified during sort"
          ret .none) (fun fin s' => match fin with | .done f => Back prog w F Q (.ok f) s' | .again c' => c'.quiet = true ∧ codeAny (model prog w) A c' (Back prog w F Q) s') (fun e s' => Back prog w F Q (.error e) s') s3 := by
        have last : ∀ out : List Value, out.Perm vs → ∀ st : SortSt, (arrOf st).map (·.2) = out.toArray → failedOf st = none → wpAny (model prog w) A.in1 (do
            let sorted := (arrOf st).map (·.2)
            let touched := (← seqEpoch a) != e1'
            Builtin.List.listUpdate (.ref a) fun _ => sorted
            if let some e := failedOf st then rule "list.sort.comparison-raised"; throw e
            if touched then rule "list.sort.modified"; raiseError "ValueError" "list modified during sort"
            ret .none) (fun fin s' => match fin with | .done f => Back prog w F Q (.ok f) s' | .again c' => c'.quiet = true ∧ codeAny (model prog w) A c' (Back prog w F Q) s') (fun e s' => Back prog w F Q (.error e) s') s3 := by
          intro out hp st hst hf
          dsimp only
          rw [hst]
          have hol : out.length ≤ 6 := by rw [hp.length_eq]; exact hvl
          have hbig : out.toArray.size ≤ big := by rw [List.size_toArray]; exact Nat.le_trans hol (by decide)
          refine wpAny_bind (seqEpoch_at ho3' rfl ?_)
          refine wpAny_bind (listUpdate_at ho3' rfl ?_ (Nat.zero_le _) (big_line1 hbig))
          rw [hf]
          simp only [bne_self_eq_false, Bool.false_eq_true, if_false]
          have S4 := S3'.set (h' := s3.heap.update a (Obj.mapSeq fun _ => out.toArray)) (y := .list (abl out.toArray)) ha1 rfl (Heap.SameBut.update ..).extBut (get?_update_seq ho3' fun _ => out.toArray) ⟨out.toArray, _, rfl, rfl, hbig⟩ rfl s3.toks
          rw [upd_upd] at S4
          refine wpAny_pure ⟨_, _, rfl, S4, h _ ?_⟩
          rw [abl_toArray]
          show (out.map ab).Perm (vs.map ab)
          exact hp.map ab
        by_cases h2 : vs.length < 2
        · have hn2 : vs.toArray.size < 2 := by rw [List.size_toArray]; exact h2
          rw [if_pos hn2, if_pos hn2]
          refine wpAny_bind (wpAny_pure ?_)
          refine wpAny_bind (wpAny_pure ?_)
          exact last vs (List.Perm.refl _) _ (by
            show ((vs.toArray.zip vs.toArray).map (·.2)) = _
            apply Array.toList_inj.mp
            simp [List.map_snd_zip]) rfl
        · have hn2 : ¬ vs.toArray.size < 2 := by rw [List.size_toArray]; exact h2
          rw [if_neg hn2, if_neg hn2]
          have trips : ∀ v ∈ vs, Trip s3.heap v := fun v hv => by
            have := trip_of S (hk (ab v) (List.mem_map.mpr ⟨v, by simpa using hv, rfl⟩))
            obtain ⟨b, k, x, y, z, t, u, q, rfl, hb⟩ := this
            refine ⟨b, k, x, y, z, t, u, q, rfl, keep3 b _ ?_ hb⟩
            rintro rfl
            rw [h1'] at hb
            simp [tupO] at hb
          have kt : ∃ fs, KatTups s3.heap vs fs ∧ fs.length = vs.length ∧ ∀ f ∈ fs, ∃ i t, f = .int i t := by
            exact katTups_of vs trips
          obtain ⟨fs, kt, kl, ki⟩ := kt
          refine wpAny_bind (kat_kind (T := .type "int") kt (by omega) (fun v hv => by obtain ⟨i, t, rfl⟩ := ki v hv; exact .now) (by decide) ?_)
          rw [show (Value.type "int" != Value.type "tuple") = true from by decide]
          have hw : (kas_sort vs.length).kasWp (kas_ask prog w A.in1 (tuples' true) vs) (fun p s' => IsP vs.length p ∧ s' = s3) s3 := by
            refine all_wp (n := vs.length) (fun i j C hi hj hC => ?_) _ (all_sort (by omega))
            unfold kas_ask
            have gi : vs.getD i Value.none ∈ vs := by simp [hi]
            have gj : vs.getD j Value.none ∈ vs := by simp [hj]
            exact lt_trip R.cl1 (trips _ gi) (trips _ gj) hC
          refine wpAny_bind (wpAny_mono (kat_run (Q := fun st' s' => ∃ p : Array Nat, p.size = vs.length ∧ arrOf st' = p.map (kas_item (vs.toArray.zip vs.toArray)) ∧ failedOf st' = none ∧ IsP vs.length p ∧ s' = s3)
            rfl (by omega) (by omega) (fun p' st' s' a1 a2 a3 a4 => ⟨p', a1, a2, a3, a4⟩) hw) ?_ fun _ _ e => e)
          rintro ⟨⟨⟩, st'⟩ s' ⟨p, hp, har, hf, hP, rfl⟩
          exact last _ (perm_out hP) st' (kat_snds rfl har) hf
      exact goalEq
    · exact h.elim
  · exact h.elim
end
end Csp

namespace Csp
open PySem PySem.W PySem.Calls PyProof.Rows PySem.SeqAt Builtin Builtin.ObjectAttr

section
variable {prog : Program} {w : World} {fs : List Env} {A : Around} {F F0 : FF} {H : Hp} {s : Shared} {n : Nat}

theorem bind_321 (w : World) (a b : Value) : Binds w 321 [a, b] [("self", a), ("other", b)] := by
  intro S
  kernel_rfl

/-- Constraint.__eq__ of two constraints of the text -/
theorem cx_eq {c' c C' C dx' dx : Addr} (h' : H c' = some (.inst C' dx')) (h : H c = some (.inst C dx)) (hC : C ∈ consC) : CX prog w 1 (.ref 321) [.ref c', .ref c] (fun v H' => v = .bool (c' == c) ∧ H' = H) H := by
  refine cx_fn (n := 0) (ok321 w) (locOf [("self", .ref c'), ("other", .ref c)]) (fun vv e => ?_) ?_
  · obtain ⟨a, r, rfl, e1, e2⟩ := List.map_eq_cons_iff.mp e
    obtain ⟨b, r', rfl, e3, e4⟩ := List.map_eq_cons_iff.mp e2
    obtain rfl := List.map_eq_nil_iff.mp e4
    exact ⟨_, bind_321 w a b, by simp [e1, e3]⟩
  · simp [b321, semSL, semS, semX, semL, VT.of, locOf, upL, biP, isConP, truthP, cmpP, isP, h, h', hC, retOf]

theorem Room.in1 {fs : List Env} {A : Around} (R : Room fs A (n + 1)) : Room fs A.in1 n := ⟨by show A.depth + 10 * n < 900; have := R.depth; omega, by show A.units + 1 + 100 * n < 9000; have := R.units; omega, R.handled, R.frames⟩

theorem k_cmp (w : World) : (consC.all fun C => consC.all fun C' => (findIn (KK w) (.ref C) "__eq__" == some (some (.ref 321))) && isFn (KK w) (.ref 321) && notFirst (KK w) C (.ref C')) = true := by kernel_rfl

/-- eqBool of two constraints that are two objects -/
theorem tx_eqCons (T : Stat fs w F) (R : Room fs A 1) {c' c C' C dx' dx : Addr} (h' : H c' = some (.inst C' dx')) (h : H c = some (.inst C dx)) (hC' : C' ∈ consC) (hC : C ∈ consC) (hne : c' ≠ c) :
    TX prog w A F (eqBool (.ref c') (.ref c)) (fun r H' => H' = H ∧ r = false) H := by
  intro s S
  have X := T.inK S
  have k := List.all_eq_true.mp (List.all_eq_true.mp (k_cmp w) C' hC') C hC
  simp only [Bool.and_eq_true, beq_iff_eq] at k
  obtain ⟨⟨k1, k2⟩, k3⟩ := k
  unfold eqBool
  refine wpAny_holding ?_
  have hb : ¬ ((Value.ref c' == Value.ref c) = true) := fun q => hne (by have := eq_of_beq q; injection this)
  refine wpAny_ite_split (fun q => absurd q hb) fun _ => ?_
  have back : wpAny (model prog w) A (call (.ref 321) [.ref c', .ref c]) (PySem.W.CmpBack (fun v s' => v = Value.bool false ∧ St prog w F H s')) (fun _ _ => False) s := by
    refine wpAny_mono ((cx_eq h' h hC).tx R T (fv := .ref 321) (vs := [.ref c', .ref c]) rfl rfl s S) (fun v s' z => ?_) fun _ _ z => z
    obtain ⟨H', S', e, rfl⟩ := z
    obtain rfl := ab_bool e
    exact ⟨by rw [beq_eq_false_iff_ne.mpr hne], S'⟩
  have L := fun M => St.instType S h' M
  have one : wpAny (model prog w) A (tryCompare (.ref c') (cmpInfo .Eq).2.1 (.ref c)) (fun r s' => ∃ v, r = some v ∧ v = Value.bool false ∧ St prog w F H s') (fun _ _ => False) s := by
    unfold tryCompare
    have fin : wpAny (model prog w) A (call (.ref 321) ([.ref c'] ++ [.ref c]) >>= fun v => pure (some v)) (fun r s' => ∃ v, r = some v ∧ v = Value.bool false ∧ St prog w F H s') (fun _ _ => False) s :=
      wpAny_bind (wpAny_mono back (fun v s' hv => wpAny_pure (by cases v <;> first | exact hv.elim | exact ⟨_, rfl, hv⟩)) fun _ _ e => e)
    have fin2 : wpAny (model prog w) A (callSpecialIfBound? (.ref c') (cmpInfo .Eq).2.1 [.ref c]) (fun r s' => ∃ v, r = some v ∧ v = Value.bool false ∧ St prog w F H s') (fun _ _ => False) s := by
      simp only [callSpecialIfBound?, bindSpecialIfBound?]
      refine wpAny_holding (wpAny_bind (wpAny_bind (wpAny_bind ((L _).here ((looks_findIn X k1).here ?_)))))
      refine wpAny_bind (wpAny_askSetting (wpAny_ite ?_))
      split
      · exact wpAny_bind ((bind_fn X _ (beq_iff_eq.mp k2)).here (wpAny_pure (by exact fin)))
      · exact wpAny_tryCatch (wpAny_bind ((bind_fn X _ (beq_iff_eq.mp k2)).here (wpAny_pure (by exact fin))))
    refine wpAny_bind (wpAny_mono fin2 (fun r s' z => ?_) fun _ _ e => e)
    obtain ⟨v, rfl, rfl, S'⟩ := z
    exact wpAny_pure ⟨_, rfl, rfl, S'⟩
  refine wpAny_bind (m := richCompare .Eq (.ref c') (.ref c)) ?_
  unfold richCompare
  simp only [oneThing_ref]
  refine wpAny_holding (wpAny_bind (wpAny_cRoomFor R.cl ?_))
  refine wpAny_bind ((L _).here (wpAny_bind ((St.instType S h _).here ?_)))
  have endp : ∀ s', St prog w F H s' → wpAny (model prog w) A (truthOfDropped (.bool false)) (fun r s' => ∃ H', St prog w F H' s' ∧ H' = H ∧ r = false) (fun _ _ => False) s' := fun s' S' => wpAny_truthy_bool ⟨H, S', rfl, rfl⟩
  split
  · rename_i q
    have e : subIn (KK w) (.ref C) (.ref C') = some false := by
      rcases Bool.or_eq_true_iff.mp k3 with e | e
      · rw [beq_iff_eq.mp e] at q; simp at q
      · exact beq_iff_eq.mp e
    refine wpAny_bind ((looks_subIn X e).here ?_)
    simp only [Bool.false_eq_true, if_false]
    refine wpAny_bind (wpAny_mono one (fun r s' z => ?_) fun _ _ e => e)
    obtain ⟨v, rfl, rfl, S'⟩ := z
    exact wpAny_pure (endp _ S')
  · refine wpAny_bind (wpAny_pure ?_)
    simp only [Bool.false_eq_true, if_false]
    refine wpAny_bind (wpAny_mono one (fun r s' z => ?_) fun _ _ e => e)
    obtain ⟨v, rfl, rfl, S'⟩ := z
    exact wpAny_pure (endp _ S')

theorem pairOf_get {H : Hp} {v : AV} {c l : Addr} (h : pairOf H v = some (c, l)) : ∃ a C dx, v = .ref a ∧ H a = some (.tuple [.ref c, .ref l]) ∧ H c = some (.inst C dx) := by
  unfold pairOf at h
  split at h
  · rename_i a
    split at h
    · rename_i c1 l1 hx
      split at h
      · rename_i C dx hc
        cases h
        exact ⟨a, C, dx, rfl, hx, hc⟩
      · cases h
    · cases h
  · cases h
theorem tup2 (S : St prog w F H s) {a c l : Addr} (h : H a = some (.tuple [.ref c, .ref l])) : ∃ n, s.heap.get? a = some { cls := .type "tuple", dict := none, data := .seq #[.ref c, .ref l] n, slots := #[] } := by
  obtain ⟨o, h1, items, m, rfl, h2, h3⟩ := S.get h
  have hl := abl_length items
  rw [h2] at hl
  obtain ⟨x⟩ := items
  match x, h2, hl with
  | [p, q], h2, _ =>
    simp only [abl, List.map_cons, List.map_nil, List.cons.injEq, and_true] at h2
    obtain rfl := ab_ref h2.1
    obtain rfl := ab_ref h2.2
    exact ⟨m, h1⟩

/-- eqBool of two entries -/
theorem tx_eqPair (T : Stat fs w F) (R : Room fs A 2) {x v : Value} {c' l' c l : Addr} (hx : pairOf H (ab x) = some (c', l')) (hv : pairOf H (ab v) = some (c, l)) (ix : isCons H (ab x)) (iv : isCons H (ab v)) (hl : c' = c → l' = l) :
    TX prog w A F (eqBool x v) (fun r H' => H' = H ∧ r = (c' == c)) H := by
  intro s S
  obtain ⟨a, C', dx', e1, ha, hc'⟩ := pairOf_get hx
  obtain ⟨b, C, dx, e2, hb, hc⟩ := pairOf_get hv
  obtain rfl := ab_ref e1
  obtain rfl := ab_ref e2
  by_cases hab : a = b
  · subst hab
    rw [ha] at hb
    cases hb
    rw [beq_self_eq_true]
    exact EqAt.same (A := A) (s := s) (.ref a) prog w _ _ ⟨H, S, rfl, rfl⟩
  · have hx1 : pairOf H (.ref a) = some (c', l') := hx
    have hv1 : pairOf H (.ref b) = some (c, l) := hv
    have ix : isCons H (.ref a) := ix
    have iv : isCons H (.ref b) := iv
    unfold isCons at ix iv
    dsimp only at ix iv
    rw [hx1] at ix; rw [hv1] at iv
    dsimp only at ix iv
    rw [hc'] at ix; rw [hc] at iv
    dsimp only at ix iv
    obtain ⟨n1, g1⟩ := tup2 S ha
    obtain ⟨n2, g2⟩ := tup2 S hb
    unfold eqBool
    refine wpAny_holding ?_
    refine wpAny_ite_split (fun q => absurd (by have := eq_of_beq q; injection this) hab) fun _ => ?_
    refine wpAny_bind (wpAny_mono (Q := fun r s' => r = .bool (c' == c) ∧ St prog w F H s') (E := fun _ _ => False) ?_ (fun r s' z => ?_) fun _ _ z => z)
    · refine wpAny_richCompare_same_room ⟨_, g1, rfl⟩ ⟨_, g2, rfl⟩ PySem.F.slot_tuple_eq (wpAny_call_entry PySem.F.slot_tuple_eq ⟨_, g1, rfl⟩ PySem.F.entry_tuple_eq ?_ (PySem.F.args_tuple_eq_2 _ _)) R.cl
      have f2 := AutoSeq1.sub_tuple_tuple
      obtain ⟨hp, g, d, tk, os⟩ := s
      wp_walk using PySem.AutoSeq1.wpAny_loadPart' g1, PySem.AutoSeq1.wpAny_loadPart' g2, wpAny_forIn_list _ (fun (rest : List (Value × Value)) b s' => b.1 = none ∧ St prog w F H s' ∧ (rest = [(.ref c', .ref c), (.ref l', .ref l)] ∨ (c' = c ∧ (rest = [(.ref l', .ref l)] ∨ rest = [])))) _
      case turn =>
        rintro y rest b1 s' ⟨hb', S', hr⟩
        by_cases hcc : c' = c
        · obtain rfl := hl hcc
          subst hcc
          have hy : ∃ q, y = (.ref q, .ref q) ∧ (rest = [(.ref l', .ref l')] ∨ rest = []) := by
            rcases hr with hr | ⟨_, hr | hr⟩
            · cases hr; exact ⟨_, rfl, .inl rfl⟩
            · cases hr; exact ⟨_, rfl, .inr rfl⟩
            · cases hr
          obtain ⟨q, rfl, hrest⟩ := hy
          refine wpAny_bind (EqAt.same (A := A.in1) (s := s') (.ref q) prog w _ _ ?_)
          wp_walk
          exact ⟨rfl, S', .inr ⟨rfl, hrest⟩⟩
        · rcases hr with hr | ⟨e, _⟩
          · cases hr
            refine wpAny_bind (wpAny_mono (tx_eqCons T R.in1 hc' hc ix iv hcc s' S') (fun r s2 z => ?_) fun _ _ z => z)
            obtain ⟨H2, S2, e, rfl⟩ := z
            rw [e] at S2
            wp_walk
            exact ⟨_, rfl, (fun x => nomatch x), by rw [beq_eq_false_iff_ne.mpr hcc], S2⟩
          · exact absurd e hcc
      case fin =>
        rintro ⟨b1, b2⟩ s' ⟨hb', S', hr⟩
        simp only at hb'
        subst hb'
        have hcc : c' = c := by
          rcases hr with hr | ⟨e, _⟩
          · cases hr
          · exact e
        wp_walk
        refine ⟨_, rfl, (fun x => nomatch x), ?_, S'⟩
        rw [hcc, beq_self_eq_true]; rfl
      case h =>
        exact ⟨rfl, S, .inl rfl⟩
    · obtain ⟨rfl, S'⟩ := z
      exact wpAny_truthy_bool ⟨H, S', rfl, rfl⟩

theorem erasePair_idx {H : Hp} {c l : Addr} : ∀ {xs ys : List AV}, erasePair H c l xs = some ys → ∃ j, ∃ hj : j < xs.length, ys = xs.eraseIdx j ∧ pairOf H xs[j] = some (c, l) ∧ ∀ i (hi : i < xs.length), i < j → ∃ c' l', pairOf H xs[i] = some (c', l') ∧ c' ≠ c
  | [], ys, h => by cases h
  | x :: r, ys, h => by
    unfold erasePair at h
    split at h
    · rename_i c' l' hx
      split at h
      · rename_i hc
        split at h
        · rename_i hl
          cases h
          subst hc hl
          exact ⟨0, by simp, rfl, hx, fun i hi h0 => absurd h0 (by omega)⟩
        · cases h
      · rename_i hc
        obtain ⟨zs, hz, rfl⟩ := Option.map_eq_some_iff.mp h
        obtain ⟨j, hj, a, b, d⟩ := erasePair_idx hz
        refine ⟨j + 1, by simpa using hj, by rw [a]; rfl, by simpa using b, fun i hi h0 => ?_⟩
        cases i with
        | zero => exact ⟨c', l', hx, hc⟩
        | succ i => exact d i (by simpa using hi) (by omega)
    · cases h

/-- list.remove of an entry of constraints -/
theorem cx_remove {o v : AV} {Q : AV → Hp → Prop} (h : removeP o v Q H) : CX prog w 3 (.other (.builtin "list.remove")) [o, v] Q H := by
  intro fs A F fv vv s R T e1 e2 S
  obtain rfl := ab_other e1
  obtain ⟨u, r, rfl, e3, e4⟩ := List.map_eq_cons_iff.mp e2
  obtain ⟨u2, r2, rfl, e5, e6⟩ := List.map_eq_cons_iff.mp e4
  obtain rfl := List.map_eq_nil_iff.mp e6
  unfold removeP at h
  split at h
  · rename_i a
    obtain rfl := ab_ref e3
    split at h
    · rename_i xs hx
      split at h
      · rename_i c l hv
        obtain ⟨hall, h⟩ := h
        split at h
        · rename_i ys hy
          obtain ⟨j, hj, rfl, hpj, hbefore⟩ := erasePair_idx hy
          obtain ⟨C, od, items, m, sl, h1, e7, h3, h4, _, up⟩ := (IsSeq.list xs).get S hx
          have h1' := isListObj h1 (h4 ⟨_, rfl⟩)
          refine codeAny_call_builtin PySem.F.slot_list_remove.plain PySem.F.entry_list_remove (PySem.F.slot_list_remove.check _ _ _ _ _ _ _ _ ⟨_, h1', rfl⟩ (PySem.F.args_list_remove_2 _ _) ?_)
          have loop := remove_loop (prog := prog) (w := w) (A := A) (F := F) (v := u2) (IsSeq.list xs) hx (fun i => decide (i = j)) (j := j) (fun i y hi hij hy => ?_) (Q := Q) hj (by simp) h (E := fun _ _ => False) _ 0 rfl (Nat.zero_le _) (fun m _ h2 => by simp; omega) s S
          · obtain ⟨hp, g, d, tk, os⟩ := s
            wp_walk
            refine ⟨plainId_quiet PySem.MeetsSeq.plain_remove_loop _, codeAny_mono loop fun r s' z => ?_⟩
            rcases r with e | (vr | _ | _ | _) <;> first | exact z.elim | skip
            obtain ⟨H', S', q⟩ := z
            exact ⟨_, H', rfl, S', q⟩
          · have hxi : ∃ c' l', pairOf H xs[i] = some (c', l') ∧ (c' = c → l' = l) ∧ (c' == c) = decide (i = j) := by
              rcases Nat.lt_or_ge i j with hlt | hge
              · obtain ⟨c', l', q1, q2⟩ := hbefore i hi hlt
                exact ⟨c', l', q1, fun q => absurd q q2, by rw [beq_eq_false_iff_ne.mpr q2]; simp; omega⟩
              · obtain rfl : i = j := by omega
                exact ⟨c, l, hpj, fun _ => rfl, by simp⟩
            obtain ⟨c', l', q1, q2, q3⟩ := hxi
            rw [← q3]
            exact tx_eqPair T R.in1 (by rw [hy]; exact q1) (by rw [e5]; exact hv) (by rw [hy]; exact hall _ (List.mem_cons_of_mem _ (List.getElem_mem hi))) (by rw [e5]; exact hall _ List.mem_cons_self) q2
        · exact h.elim
      · exact h.elim
    · exact h.elim
  · exact h.elim
end
end Csp

namespace Csp
open PySem PySem.W PySem.Calls PyProof.Rows PySem.SeqAt Builtin Builtin.ObjectAttr

/-- what is known of an abstract heap -/
def Sub (G H : Hp) : Prop := ∀ a x, G a = some x → H a = some x
theorem Sub.refl (G : Hp) : Sub G G := fun _ _ e => e
theorem Sub.trans {G H K : Hp} (h : Sub G H) (k : Sub H K) : Sub G K := fun a x e => k a x (h a x e)
theorem Sub.upd {G H : Hp} (h : Sub G H) (a : Addr) (x : AO) : Sub (upd G a x) (upd H a x) := fun b y e => by
  unfold Csp.upd at e ⊢
  by_cases q : b = a
  · rw [if_pos q] at e ⊢; exact e
  · rw [if_neg q] at e ⊢; exact h b y e
theorem Sub.out {G H : Hp} (h : Sub G H) {a : Addr} (hn : H a = none) : G a = none := by
  cases e : G a with
  | none => rfl
  | some x => rw [h a x e] at hn; cases hn
theorem Sub.new {G H : Hp} (h : Sub G H) {a : Addr} (hn : H a = none) (x : AO) : Sub G (Csp.upd H a x) := fun b y e => by
  unfold Csp.upd
  rw [if_neg (by rintro rfl; rw [h.out hn] at e; cases e)]
  exact h b y e

/-- the token of SomeInSetConstraint's default n -/
noncomputable def t455 (w : World) : Tok := match fdAt (KK w) 455 with
  | some fd => (match fd.defaults with
    | .ref T => (match (KK w).lookup T with
      | some ⟨_, _, .seq xs _, _⟩ => (match xs.toList with
        | .int _ t :: _ => t
        | _ => 0)
      | _ => 0)
    | _ => 0)
  | none => 0

section
variable (w : World) (a b c d e f : Value)
theorem bind_286 : Binds w 286 [a] [("self", a)] := by intro S; kernel_rfl
theorem bind_293 : Binds w 293 [a] [("self", a)] := by intro S; kernel_rfl
theorem bind_300 : Binds w 300 [a, b] [("self", a), ("value", b)] := by intro S; kernel_rfl
theorem bind_279 : Binds w 279 [a] [("self", a)] := by intro S; kernel_rfl
theorem bind_272 : Binds w 272 [a, b] [("self", a), ("values", b)] := by intro S; kernel_rfl
theorem bind_36 : Binds w 36 [a, b] [("self", a), ("solver", b)] := by intro S; kernel_rfl
theorem bind_64 : Binds w 64 [a, b, c] [("self", a), ("variable", b), ("domain", c)] := by intro S; kernel_rfl
theorem bind_71 : Binds w 71 [a, b, c] [("self", a), ("variables", b), ("domain", c)] := by intro S; kernel_rfl
theorem bind_79 : Binds w 79 [a, b, c] [("self", a), ("constraint", b), ("variables", c)] := by intro S; kernel_rfl
theorem bind_79' : Binds w 79 [a, b] [("self", a), ("constraint", b), ("variables", .none)] := by intro S; kernel_rfl
theorem bind_86 : Binds w 86 [a] [("self", a)] := by intro S; kernel_rfl
theorem bind_107 : Binds w 107 [a] [("self", a)] := by intro S; kernel_rfl
theorem bind_164 : Binds w 164 [a, b] [("self", a), ("forwardcheck", b)] := by intro S; kernel_rfl
theorem bind_164' : Binds w 164 [a] [("self", a), ("forwardcheck", .bool true)] := by intro S; kernel_rfl
theorem bind_203 : Binds w 203 [a, b] [("self", a), ("forwardcheck", b)] := by intro S; kernel_rfl
theorem bind_203' : Binds w 203 [a] [("self", a), ("forwardcheck", .bool true)] := by intro S; kernel_rfl
theorem bind_208 : Binds w 208 [a, b, c, d, e, f] [("self", a), ("solutions", b), ("domains", c), ("vconstraints", d), ("assignments", e), ("single", f)] := by intro S; kernel_rfl
theorem bind_215 : Binds w 215 [a, b, c, d] [("self", a), ("domains", b), ("constraints", c), ("vconstraints", d)] := by intro S; kernel_rfl
theorem bind_336 : Binds w 336 [a, b, c, d, e] [("self", a), ("variables", b), ("domains", c), ("constraints", d), ("vconstraints", e)] := by intro S; kernel_rfl
theorem bind_392 : Binds w 392 [a, b] [("self", a), ("maxsum", b), ("multipliers", .none)] := by intro S; kernel_rfl
theorem bind_399 : Binds w 399 [a, b, c, d, e] [("self", a), ("variables", b), ("domains", c), ("constraints", d), ("vconstraints", e)] := by intro S; kernel_rfl
theorem bind_407 : Binds w 407 [a, b, c, d, e] [("self", a), ("variables", b), ("domains", c), ("assignments", d), ("forwardcheck", e)] := by intro S; kernel_rfl
theorem bind_427 : Binds w 427 [a, b] [("self", a), ("minsum", b), ("multipliers", .none)] := by intro S; kernel_rfl
theorem bind_435 : Binds w 435 [a, b, c, d, e] [("self", a), ("variables", b), ("domains", c), ("assignments", d), ("forwardcheck", e)] := by intro S; kernel_rfl
theorem bind_455 : Binds w 455 [a, b] [("self", a), ("members", b), ("n", .int 1 (t455 w)), ("exact", .bool false)] := by intro S; kernel_rfl
theorem bind_463 : Binds w 463 [a, b, c, d, e] [("self", a), ("variables", b), ("domains", c), ("assignments", d), ("forwardcheck", e)] := by intro S; kernel_rfl
theorem bind_475 : Binds w 475 [a, b] [("script", a), ("k", b)] := by intro S; kernel_rfl
theorem bind_480 : Binds w 480 [a, b, c] [("solver", a), ("edges", b), ("n", c)] := by intro S; kernel_rfl
theorem bind_487 : Binds w 487 [a, b, c, d] [("solver", a), ("edges", b), ("n", c), ("kind", d)] := by intro S; kernel_rfl
theorem bind_492 : Binds w 492 [a] [("script", a)] := by intro S; kernel_rfl
end
end Csp

namespace Csp
open PySem PySem.W PySem.Calls PyProof.Rows PySem.SeqAt Builtin Builtin.ObjectAttr

theorem args1 {vv : List Value} {a : AV} (h : vv.map ab = [a]) : ∃ x, vv = [x] ∧ ab x = a := by
  obtain ⟨x, r, rfl, e1, e2⟩ := List.map_eq_cons_iff.mp h
  obtain rfl := List.map_eq_nil_iff.mp e2
  exact ⟨x, rfl, e1⟩
theorem args2 {vv : List Value} {a b : AV} (h : vv.map ab = [a, b]) : ∃ x y, vv = [x, y] ∧ ab x = a ∧ ab y = b := by
  obtain ⟨x, r, rfl, e1, e2⟩ := List.map_eq_cons_iff.mp h
  obtain ⟨y, rfl, e3⟩ := args1 e2
  exact ⟨x, y, rfl, e1, e3⟩
theorem args3 {vv : List Value} {a b c : AV} (h : vv.map ab = [a, b, c]) : ∃ x y z, vv = [x, y, z] ∧ ab x = a ∧ ab y = b ∧ ab z = c := by
  obtain ⟨x, r, rfl, e1, e2⟩ := List.map_eq_cons_iff.mp h
  obtain ⟨y, z, rfl, e3⟩ := args2 e2
  exact ⟨x, y, z, rfl, e1, e3⟩
theorem args4 {vv : List Value} {a b c d : AV} (h : vv.map ab = [a, b, c, d]) : ∃ x y z u, vv = [x, y, z, u] ∧ ab x = a ∧ ab y = b ∧ ab z = c ∧ ab u = d := by
  obtain ⟨x, r, rfl, e1, e2⟩ := List.map_eq_cons_iff.mp h
  obtain ⟨y, z, u, rfl, e3⟩ := args3 e2
  exact ⟨x, y, z, u, rfl, e1, e3⟩
theorem args5 {vv : List Value} {a b c d e : AV} (h : vv.map ab = [a, b, c, d, e]) : ∃ x y z u v, vv = [x, y, z, u, v] ∧ ab x = a ∧ ab y = b ∧ ab z = c ∧ ab u = d ∧ ab v = e := by
  obtain ⟨x, r, rfl, e1, e2⟩ := List.map_eq_cons_iff.mp h
  obtain ⟨y, z, u, v, rfl, e3⟩ := args4 e2
  exact ⟨x, y, z, u, v, rfl, e1, e3⟩
theorem args6 {vv : List Value} {a b c d e f : AV} (h : vv.map ab = [a, b, c, d, e, f]) : ∃ x y z u v t, vv = [x, y, z, u, v, t] ∧ ab x = a ∧ ab y = b ∧ ab z = c ∧ ab u = d ∧ ab v = e ∧ ab t = f := by
  obtain ⟨x, r, rfl, e1, e2⟩ := List.map_eq_cons_iff.mp h
  obtain ⟨y, z, u, v, t, rfl, e3⟩ := args5 e2
  exact ⟨x, y, z, u, v, t, rfl, e1, e3⟩

/-! one step of the semantics over a known heap: equations with conditions, for simp -/
section
variable {H : Hp} {a C dx : Addr} {es : List (String × AV)} {xs : List AV} {ds : List (Int × AV)} {ep : Nat} {nm : String} {Q : AV → Hp → Prop} {QB : Bool → Hp → Prop}

theorem e_attr_inst (h : H a = some (.inst C dx)) (h2 : H dx = some (.ns es)) : attrP (.ref a) nm Q H = (match es.lookup nm with | some v => C ∈ instC ∧ v.plain = true ∧ Q v H | none => False) := by
  simp only [attrP, NmAt, h, h2]
  cases es.lookup nm <;> rfl
theorem e_attr_dom (h : H a = some (.dom C dx xs)) (h2 : H dx = some (.ns es)) : attrP (.ref a) nm Q H = (match es.lookup nm with | some v => C = 303 ∧ v.plain = true ∧ Q v H | none => False) := by
  simp only [attrP, NmAt, h, h2]
  cases es.lookup nm <;> rfl
theorem e_meth_list (h : H a = some (.list xs)) (hn : nm ≠ "preProcess") : methOf H (.ref a) nm = listMeth nm := by
  simp only [methOf, hn, and_false, if_false, h]
theorem e_meth_dict (h : H a = some (.dict ds ep)) (hn : nm ≠ "preProcess") : methOf H (.ref a) nm = (dictMeth nm).map .bi := by
  simp only [methOf, hn, and_false, if_false, h]
theorem e_meth_inst (h : H a = some (.inst C dx)) (h2 : H dx = some (.ns es)) (hn : a ≠ 347) : methOf H (.ref a) nm = ((match es.lookup nm with
      | none => (methC C nm).map .py
      | _ => none : Option Me)) := by
  simp only [methOf, hn, false_and, if_false, h, NmAt, h2]
  cases es.lookup nm <;> rfl
theorem e_meth_dom (h : H a = some (.dom 303 dx xs)) (h2 : H dx = some (.ns es)) (hn : nm ≠ "preProcess") : methOf H (.ref a) nm = ((match es.lookup nm with
      | none => (match methD.lookup nm with
        | some f => some (.py f)
        | none => (domMeth nm).map .bi)
      | _ => none : Option Me)) := by
  simp only [methOf, hn, and_false, if_false, h, NmAt, h2, if_true]
  cases es.lookup nm <;> rfl
theorem e_len_list (h : H a = some (.list xs)) : lenP (.ref a) Q H = Q (.int xs.length) H := by simp only [lenP, h]
theorem e_len_dom (h : H a = some (.dom 303 dx xs)) : lenP (.ref a) Q H = Q (.int xs.length) H := by simp only [lenP, h, true_and]
theorem e_len_dict (h : H a = some (.dict ds ep)) : lenP (.ref a) Q H = Q (.int ds.length) H := by simp only [lenP, h]
theorem e_app (h : H a = some (.list xs)) {v : AV} : biMeth .lAppend (.ref a) [v] Q H = (xs.length < big ∧ Q .none (upd H a (.list (xs ++ [v])))) := by simp only [biMeth, h]
theorem e_pop (h : H a = some (.list xs)) : biMeth .lPop (.ref a) [] Q H = (match xs.getLast? with | some v => Q v (upd H a (.list xs.dropLast)) | none => False) := by
  simp only [biMeth, h] <;> (cases xs.getLast? <;> rfl)
theorem e_truth_list (h : H a = some (.list xs)) : truthP (.ref a) QB H = QB (!xs.isEmpty) H := by simp only [truthP, h]
theorem e_truth_dom (h : H a = some (.dom 303 dx xs)) : truthP (.ref a) QB H = QB (!xs.isEmpty) H := by simp only [truthP, h, true_and]
theorem e_truth_dict (h : H a = some (.dict ds ep)) : truthP (.ref a) QB H = QB (!ds.isEmpty) H := by simp only [truthP, h]
theorem e_truth_int {i : Int} : truthP (.int i) QB H = QB (i != 0) H := rfl
theorem e_truth_bool {b : Bool} : truthP (.bool b) QB H = QB b H := rfl
theorem e_truth_none : truthP .none QB H = QB false H := rfl
theorem e_remove (h : H a = some (.dom 303 dx xs)) {i : Int} : biMeth .domRemove (.ref a) [.int i] Q H = (xs.all AV.isInt = true ∧ xs.any (fun x => x.num == i) = true ∧ Q .none (upd H a (.dom 303 dx (eraseInt xs i)))) := by simp only [biMeth, h, true_and]
theorem e_extend {l : Addr} {ys : List AV} (h : H a = some (.dom 303 dx xs)) (hl : H l = some (.list ys)) : biMeth .domExtend (.ref a) [.ref l] Q H = (xs.length + ys.length < big ∧ Q .none (upd H a (.dom 303 dx (xs ++ ys)))) := by simp only [biMeth, h, hl, true_and]
theorem e_idx_list (h : H a = some (.list xs)) {i : Int} : idxP (.ref a) (.int i) Q H = (0 ≤ i ∧ getP xs i Q H) := by simp only [idxP, h]
theorem e_idx_tup (h : H a = some (.tuple xs)) {i : Int} : idxP (.ref a) (.int i) Q H = getP xs i Q H := by simp only [idxP, h]
theorem e_idx_dict (h : H a = some (.dict ds ep)) {i : Int} : idxP (.ref a) (.int i) Q H = (match look ds i with | some v => Q v H | none => False) := by
  simp only [idxP, h] <;> (cases look ds i <;> rfl)
theorem e_full_list (h : H a = some (.list xs)) : fullP (.ref a) Q H = newP (.list xs) Q H := by simp only [fullP, h]
theorem e_full_dom (h : H a = some (.dom 303 dx xs)) : fullP (.ref a) Q H = newP (.list xs) Q H := by simp only [fullP, h, true_and]
theorem e_tail (h : H a = some (.list xs)) {i : Int} : tailP (.ref a) (.int i) Q H = (-(2 ^ 62) < i ∧ i < 0 ∧ newP (.list (xs.drop (xs.length - (-i).toNat))) Q H) := by simp only [tailP, h]
theorem e_delTail (h : H a = some (.list xs)) {i : Int} {QH : Hp → Prop} : delTailP (.ref a) (.int i) QH H = (-(2 ^ 62) < i ∧ i < 0 ∧ QH (upd H a (.list (xs.take (xs.length - (-i).toNat))))) := by simp only [delTailP, h]
theorem e_delFull (h : H a = some (.list xs)) {QH : Hp → Prop} : delFullP (.ref a) QH H = QH (upd H a (.list [])) := by simp only [delFullP, h]
theorem e_setItem (h : H a = some (.dict ds ep)) {k : Int} {v : AV} {QH : Hp → Prop} : setItemP (.ref a) (.int k) v QH H = (ds.length < big ∧ ∀ ep, QH (upd H a (.dict (store ds k v) ep))) := by simp only [setItemP, h]
theorem e_delItem (h : H a = some (.dict ds ep)) {k : Int} {QH : Hp → Prop} : delItemP (.ref a) (.int k) QH H = ((look ds k).isSome = true ∧ ∀ ep, QH (upd H a (.dict (drop ds k) ep))) := by simp only [delItemP, h]
theorem e_setAttr_inst (h : H a = some (.inst C dx)) (h2 : H dx = some (.ns es)) {v : AV} {QH : Hp → Prop} : setAttrP (.ref a) nm v QH H = (v.plain = true ∧ C ∈ instC ∧ es.length < 20 ∧ es.lookup nm = none ∧ QH (upd H dx (.ns (es ++ [(nm, v)])))) := by simp only [setAttrP, h, h2]
theorem e_setAttr_dom (h : H a = some (.dom C dx xs)) (h2 : H dx = some (.ns es)) {v : AV} {QH : Hp → Prop} : setAttrP (.ref a) nm v QH H = (v.plain = true ∧ C = 303 ∧ es.length < 20 ∧ es.lookup nm = none ∧ QH (upd H dx (.ns (es ++ [(nm, v)])))) := by simp only [setAttrP, h, h2]
theorem e_in_dict (h : H a = some (.dict ds ep)) {i : Int} : inP (.int i) (.ref a) QB H = QB (ds.any fun p => p.1 == i) H := by simp only [inP, h]
theorem e_in_list (h : H a = some (.list xs)) {i : Int} : inP (.int i) (.ref a) QB H = ((xs.all AV.isInt = true) ∧ QB (xs.any fun x => x.num == i) H) := by simp only [inP, h]
theorem e_items_list (h : H a = some (.list xs)) : itemsOf H (.ref a) = some xs := by simp only [itemsOf, h]
theorem e_items_dom (h : H a = some (.dom 303 dx xs)) : itemsOf H (.ref a) = some xs := by simp only [itemsOf, h, if_true]
theorem e_items_dict (h : H a = some (.dict ds ep)) : itemsOf H (.ref a) = some (ds.map fun p => .int p.1) := by simp only [itemsOf, h]
theorem e_items_range {lo hi : Int} (h : H a = some (.range lo hi)) : itemsOf H (.ref a) = some ((List.range (hi - lo).toNat).map fun (k : Nat) => AV.int (lo + (k : Int))) := by simp only [itemsOf, h]
theorem e_same {H' : Hp} (h : H a = some (.list xs)) : sameSrc H H' (.ref a) = (H' a = some (.list xs)) := by simp only [sameSrc, h, and_true]
end

/-- a Domain and its lists -/
structure DomAt (G : Hp) (d dx h t : Addr) (vis hid sts : List AV) : Prop where
  dom : G d = some (.dom 303 dx vis)
  ns : G dx = some (.ns [("_hidden", .ref h), ("_states", .ref t)])
  hid : G h = some (.list hid)
  sts : G t = some (.list sts)
  ne : h ≠ t

section
variable {prog : Program} {w : World} {n : Nat} {G H : Hp}

theorem cx_push {d dx h t : Addr} {vis hid sts : List AV} {Q : AV → Hp → Prop} (D : DomAt H d dx h t vis hid sts) (hz : sts.length < big) (q : Q .none (upd H t (.list (sts ++ [.int vis.length])))) :
    CX prog w 1 (.ref 286) [.ref d] Q H := by
  refine cx_fn (n := 0) (ok286 w) (locOf [("self", .ref d)]) (fun vv e => ?_) ?_
  · obtain ⟨x, rfl, e1⟩ := args1 e
    exact ⟨_, bind_286 w x, by simp [e1]⟩
  · simp only [b286, semSL, semS, semX, semL, VT.of, locOf, List.foldl, upL, if_true, e_attr_dom D.dom D.ns, List.lookup]
    simp [AV.plain, e_meth_list D.sts, listMeth, biP, e_len_dom D.dom, e_app D.sts, hz, retOf, q]
end
end Csp

namespace Csp
open PySem PySem.W PySem.Calls PyProof.Rows PySem.SeqAt Builtin Builtin.ObjectAttr

section
variable {prog : Program} {w : World} {n : Nat} {G H : Hp}

theorem DomAt.upd {d dx h t a : Addr} {o : AO} {vis hid sts : List AV} (D : DomAt H d dx h t vis hid sts) (h1 : a ≠ d) (h2 : a ≠ dx) (h3 : a ≠ h) (h4 : a ≠ t) : DomAt (Csp.upd H a o) d dx h t vis hid sts :=
  ⟨by rw [upd_ne (Ne.symm h1)]; exact D.dom, by rw [upd_ne (Ne.symm h2)]; exact D.ns, by rw [upd_ne (Ne.symm h3)]; exact D.hid, by rw [upd_ne (Ne.symm h4)]; exact D.sts, D.ne⟩

theorem cx_hide {d dx h t : Addr} {vis hid sts : List AV} {i : Int} {Q : AV → Hp → Prop} (D : DomAt H d dx h t vis hid sts) (hz : hid.length < big) (hi : vis.all AV.isInt = true) (hm : vis.any (fun x => x.num == i) = true)
    (q : Q .none (upd (upd H d (.dom 303 dx (eraseInt vis i))) h (.list (hid ++ [.int i])))) :
    CX prog w 1 (.ref 300) [.ref d, .int i] Q H := by
  have hd : dx ≠ d := fun e => by have := D.ns; rw [e, D.dom] at this; exact absurd this (by simp)
  have hh : h ≠ d := fun e => by have := D.hid; rw [e, D.dom] at this; exact absurd this (by simp)
  refine cx_fn (n := 0) (ok300 w) (locOf [("self", .ref d), ("value", .int i)]) (fun vv e => ?_) ?_
  · obtain ⟨x, y, rfl, e1, e2⟩ := args2 e
    exact ⟨_, bind_300 w x y, by simp [e1, e2]⟩
  · have hm0 : methOf H (.ref d) "remove" = some (.bi .domRemove) := by
      rw [e_meth_dom D.dom D.ns (by decide)]; rfl
    have g1 : (upd H d (.dom 303 dx (eraseInt vis i))) d = some (.dom 303 dx (eraseInt vis i)) := by simp [upd]
    have g2 : (upd H d (.dom 303 dx (eraseInt vis i))) dx = some (.ns [("_hidden", .ref h), ("_states", .ref t)]) := by rw [upd_ne hd]; exact D.ns
    have g3 : (upd H d (.dom 303 dx (eraseInt vis i))) h = some (.list hid) := by rw [upd_ne hh]; exact D.hid
    simp only [b300, semSL, semS, semX, semL, VT.of, locOf, List.foldl, upL, if_true]
    simp [AV.plain, hm0, biP, e_remove D.dom, hi, hm, e_attr_dom g1 g2, List.lookup, e_meth_list g3, listMeth, e_app g3, hz, retOf, q]
end
end Csp

namespace Csp
open PySem PySem.W PySem.Calls PyProof.Rows PySem.SeqAt Builtin Builtin.ObjectAttr

/-- only the addresses of S, and new ones, may have changed -/
def Chg (S : List Addr) (H H' : Hp) : Prop := ∀ a x, H a = some x → a ∉ S → H' a = some x
theorem Chg.refl (S : List Addr) (H : Hp) : Chg S H H := fun _ _ e _ => e
theorem Chg.trans {S : List Addr} {H H1 H2 : Hp} (h : Chg S H H1) (k : Chg S H1 H2) : Chg S H H2 := fun a x e n => k a x (h a x e n) n
theorem Chg.mono {S S' : List Addr} {H H1 : Hp} (h : Chg S H H1) (k : ∀ a, a ∈ S → a ∈ S') : Chg S' H H1 := fun a x e n => h a x e (fun m => n (k a m))
theorem Chg.upd {S : List Addr} {H H1 : Hp} (h : Chg S H H1) {a : Addr} {o : AO} (m : a ∈ S) : Chg S H (Csp.upd H1 a o) := fun b x e n => by
  rw [upd_ne (by rintro rfl; exact n m)]; exact h b x e n
theorem Chg.new {S : List Addr} {H H1 : Hp} (h : Chg S H H1) {a : Addr} {o : AO} (m : Fresh H1 a) : Chg S H (Csp.upd H1 a o) := fun b x e n => by
  have q := h b x e n
  rw [upd_ne (by rintro rfl; rw [m.1] at q; cases q)]; exact q

section
variable {prog : Program} {w : World} {n : Nat} {G H : Hp}

theorem DomAt.chg {S : List Addr} {H' : Hp} {d dx h t : Addr} {vis hid sts : List AV} (D : DomAt H d dx h t vis hid sts) (k : Chg S H H') (h1 : d ∉ S) (h2 : dx ∉ S) (h3 : h ∉ S) (h4 : t ∉ S) : DomAt H' d dx h t vis hid sts :=
  ⟨k _ _ D.dom h1, k _ _ D.ns h2, k _ _ D.hid h3, k _ _ D.sts h4, D.ne⟩

theorem cx_pop {d dx h t : Addr} {vis hid sts : List AV} {e : Nat} {Q : AV → Hp → Prop} (D : DomAt H d dx h t vis hid (sts ++ [.int (vis.length + e : Nat)])) (hz : vis.length + hid.length < big) (he : e ≤ hid.length)
    (q : ∀ H', Chg [t, d, h] H H' → DomAt H' d dx h t (vis ++ hid.drop (hid.length - e)) (hid.take (hid.length - e)) sts → Q .none H') :
    CX prog w 1 (.ref 293) [.ref d] Q H := by
  have hd : dx ≠ d := fun e => by have := D.ns; rw [e, D.dom] at this; exact absurd this (by simp)
  have hh : h ≠ d := fun e => by have := D.hid; rw [e, D.dom] at this; exact absurd this (by simp)
  have ht : t ≠ d := fun e => by have := D.sts; rw [e, D.dom] at this; exact absurd this (by simp)
  have htx : t ≠ dx := fun e => by have := D.sts; rw [e, D.ns] at this; exact absurd this (by simp)
  have hhx : h ≠ dx := fun e => by have := D.hid; rw [e, D.ns] at this; exact absurd this (by simp)
  refine cx_fn (n := 0) (ok293 w) (locOf [("self", .ref d)]) (fun vv e => ?_) ?_
  · obtain ⟨x, rfl, e1⟩ := args1 e
    exact ⟨_, bind_293 w x, by simp [e1]⟩
  · have g0 : (upd H t (.list sts)) d = some (.dom 303 dx vis) := by rw [upd_ne ht.symm]; exact D.dom
    have g1 : (upd H t (.list sts)) dx = some (.ns [("_hidden", .ref h), ("_states", .ref t)]) := by rw [upd_ne htx.symm]; exact D.ns
    have g2 : (upd H t (.list sts)) h = some (.list hid) := by rw [upd_ne D.ne]; exact D.hid
    have m0 : methOf (upd H t (.list sts)) (.ref d) "extend" = some (.bi .domExtend) := by
      rw [e_meth_dom g0 g1 (by decide)]; rfl
    have hi : ((vis.length + e : Nat) : Int) - (vis.length : Int) = e := by omega
    simp only [b293, semSL, semS, semX, semL, VT.of, locOf, List.foldl, upL, if_true]
    simp [AV.plain, e_attr_dom D.dom D.ns, List.lookup, e_meth_list D.sts, listMeth, biP, e_pop D.sts, e_len_dom g0, binP, truthP, -Int.natCast_add, hi]
    by_cases h0 : e = 0
    · subst h0
      rw [if_pos rfl]
      refine q _ ((Chg.refl _ _).upd (by simp)) ⟨g0.trans (by simp), g1, g2.trans (by simp), by simp [upd], D.ne⟩
    · rw [if_neg h0]
      simp only [m0]
      have hb : e < 2 ^ 62 := by unfold big at hz; omega
      rw [e_attr_dom g0 g1]
      simp only [List.lookup, AV.plain]
      simp [e_tail g2, newP]
      refine ⟨by omega, by omega, fun z hz0 => ?_⟩
      have zn : ∀ {b : Addr} {x : AO}, upd H t (.list sts) b = some x → b ≠ z := by
        rintro b x e1 rfl; rw [hz0.1] at e1; cases e1
      have zt : t ≠ z := zn (x := .list sts) (by simp [upd])
      have p0 := (upd_ne (x := AO.list (hid.drop (hid.length - e))) (zn g0)).trans g0
      have p1 := (upd_ne (x := AO.list (hid.drop (hid.length - e))) (zn g1)).trans g1
      have p2 := (upd_ne (x := AO.list (hid.drop (hid.length - e))) (zn g2)).trans g2
      have pz : upd (upd H t (.list sts)) z (.list (hid.drop (hid.length - e))) z = some (.list (hid.drop (hid.length - e))) := by simp [upd]
      have pt : upd (upd H t (.list sts)) z (.list (hid.drop (hid.length - e))) t = some (.list sts) := by rw [upd_ne zt]; simp [upd]
      rw [e_extend p0 pz]
      refine ⟨by simp; omega, ?_⟩
      generalize hK : upd (upd H t (.list sts)) z (.list (hid.drop (hid.length - e))) = K at p0 p1 p2 pz pt ⊢
      have cK : Chg [t, d, h] H K := by
        rw [← hK]
        exact Chg.new ((Chg.refl _ _).upd (by simp)) hz0
      have q0 : (upd K d (.dom 303 dx (vis ++ hid.drop (hid.length - e)))) d = some (.dom 303 dx (vis ++ hid.drop (hid.length - e))) := by simp [upd]
      have q1 := (upd_ne (x := AO.dom 303 dx (vis ++ hid.drop (hid.length - e))) hd).trans p1
      have q2 := (upd_ne (x := AO.dom 303 dx (vis ++ hid.drop (hid.length - e))) hh).trans p2
      have q3 := (upd_ne (x := AO.dom 303 dx (vis ++ hid.drop (hid.length - e))) ht).trans pt
      rw [e_attr_dom q0 q1]
      simp only [List.lookup, AV.plain]
      simp [e_delTail q2]
      refine ⟨by omega, by omega, q _ ((cK.upd (by simp)).upd (by simp)) ⟨(upd_ne hh.symm).trans q0, (upd_ne hhx.symm).trans q1, by simp [upd], (upd_ne D.ne.symm).trans q3, D.ne⟩⟩

theorem cx_reset {d dx h t : Addr} {vis hid sts : List AV} {Q : AV → Hp → Prop} (D : DomAt H d dx h t vis hid sts) (hz : vis.length + hid.length < big)
    (q : ∀ H', Chg [t, d, h] H H' → DomAt H' d dx h t (vis ++ hid) [] [] → Q .none H') :
    CX prog w 1 (.ref 279) [.ref d] Q H := by
  have hd : dx ≠ d := fun e => by have := D.ns; rw [e, D.dom] at this; exact absurd this (by simp)
  have hh : h ≠ d := fun e => by have := D.hid; rw [e, D.dom] at this; exact absurd this (by simp)
  have ht : t ≠ d := fun e => by have := D.sts; rw [e, D.dom] at this; exact absurd this (by simp)
  have htx : t ≠ dx := fun e => by have := D.sts; rw [e, D.ns] at this; exact absurd this (by simp)
  have hhx : h ≠ dx := fun e => by have := D.hid; rw [e, D.ns] at this; exact absurd this (by simp)
  refine cx_fn (n := 0) (ok279 w) (locOf [("self", .ref d)]) (fun vv e => ?_) ?_
  · obtain ⟨x, rfl, e1⟩ := args1 e
    exact ⟨_, bind_279 w x, by simp [e1]⟩
  · have m0 : methOf H (.ref d) "extend" = some (.bi .domExtend) := by
      rw [e_meth_dom D.dom D.ns (by decide)]; rfl
    have q0 : (upd H d (.dom 303 dx (vis ++ hid))) d = some (.dom 303 dx (vis ++ hid)) := by simp [upd]
    have q1 := (upd_ne (x := AO.dom 303 dx (vis ++ hid)) hd).trans D.ns
    have q2 := (upd_ne (x := AO.dom 303 dx (vis ++ hid)) hh).trans D.hid
    have q3 := (upd_ne (x := AO.dom 303 dx (vis ++ hid)) ht).trans D.sts
    have r0 := (upd_ne (x := AO.list []) hh.symm).trans q0
    have r1 := (upd_ne (x := AO.list []) hhx.symm).trans q1
    have r3 := (upd_ne (x := AO.list []) D.ne.symm).trans q3
    simp only [b279, semSL, semS, semX, semL, VT.of, locOf, List.foldl, upL, if_true]
    simp [m0, biP, e_attr_dom D.dom D.ns, List.lookup, AV.plain, e_extend D.dom D.hid, hz, e_attr_dom q0 q1, e_delFull q2, e_attr_dom r0 r1, e_delFull r3]
    refine q _ ((((Chg.refl _ _).upd (by simp)).upd (by simp)).upd (by simp)) ⟨(upd_ne ht.symm).trans r0, (upd_ne htx.symm).trans r1, ?_, by simp [upd], D.ne⟩
    rw [upd_ne D.ne]; simp [upd]
end
end Csp

namespace Csp
open PySem PySem.W PySem.Calls PyProof.Rows PySem.SeqAt Builtin Builtin.ObjectAttr

section
variable {prog : Program} {w : World} {n : Nat} {G H : Hp}

theorem cx_ini1 {f : Addr} {C : Addr} {nm nf : String} {x dx : Addr} {v : AV} {Q : AV → Hp → Prop}
    (ok : fnOk w f (.cons (.assignAttr (.loc "self") nf (.loc nm)) .nil) = true) (hn : nm ≠ "self")
    (hb : ∀ vv, vv.map ab = [.ref x, v] → ∃ bs, Binds w f vv bs ∧ locOf [("self", .ref x), (nm, v)] = locOf (bs.map fun p => (p.1, ab p.2)))
    (h1 : H x = some (.inst C dx)) (h2 : H dx = some (.ns [])) (hC : C ∈ instC) (hv : v.plain = true)
    (q : Q .none (upd H dx (.ns [(nf, v)]))) : CX prog w 1 (.ref f) [.ref x, v] Q H := by
  refine cx_fn (n := 0) ok _ hb ?_
  simp only [semSL, semS, semX, semL, VT.of, locOf, List.foldl, upL, if_true]
  simp [hn, Ne.symm hn, e_setAttr_inst h1 h2, hv, hC, retOf, q, List.lookup]

/-- the heap after an object of a class was made and its attributes set -/
theorem chg_make {dx x : Addr} {C : Addr} {es : List (String × AV)} (f1 : Fresh H dx) (f2 : Fresh H x) (h : dx ≠ x) :
    Chg [] H (upd (upd (upd H dx (.ns [])) x (.inst C dx)) dx (.ns es)) ∧ (upd (upd (upd H dx (.ns [])) x (.inst C dx)) dx (.ns es)) x = some (.inst C dx) ∧ (upd (upd (upd H dx (.ns [])) x (.inst C dx)) dx (.ns es)) dx = some (.ns es) := by
  refine ⟨fun b y e _ => ?_, by rw [upd_ne (Ne.symm h)]; simp [upd], by simp [upd]⟩
  have b1 : b ≠ dx := by rintro rfl; rw [f1.1] at e; cases e
  have b2 : b ≠ x := by rintro rfl; rw [f2.1] at e; cases e
  rw [upd_ne b1, upd_ne b2, upd_ne b1]; exact e

theorem cx_new1 {f : Addr} {C : Addr} {nm nf : String} {vs : List AV} {v : AV} {Q : AV → Hp → Prop} (hm : (C, f) ∈ mkC) (hC : C ∈ instC)
    (ok : fnOk w f (.cons (.assignAttr (.loc "self") nf (.loc nm)) .nil) = true) (hn : nm ≠ "self")
    (hb : ∀ x vv, vv.map ab = (.ref x :: vs) → ∃ bs, Binds w f vv bs ∧ locOf [("self", .ref x), (nm, v)] = locOf (bs.map fun p => (p.1, ab p.2)))
    (hv : v.plain = true)
    (q : ∀ x dx H', Fresh H x → Chg [] H H' → H' x = some (.inst C dx) → H' dx = some (.ns [(nf, v)]) → Q (.ref x) H') : CX prog w 2 (.ref C) vs Q H := by
  refine cx_make (n := 1) hm fun dx x f1 f2 h => ?_
  obtain ⟨c1, c2, c3⟩ := chg_make (C := C) (es := [(nf, v)]) f1 f2 h
  have g1 : (upd (upd H dx (.ns [])) x (.inst C dx)) x = some (.inst C dx) := by simp [upd]
  have g2 : (upd (upd H dx (.ns [])) x (.inst C dx)) dx = some (.ns []) := by rw [upd_ne h]; simp [upd]
  refine cx_fn (n := 0) ok _ (hb x) ?_
  simp only [semSL, semS, semX, semL, VT.of, locOf, List.foldl, upL, if_true]
  simp [hn, Ne.symm hn, e_setAttr_inst g1 g2, hv, hC, retOf, List.lookup]
  exact q x dx _ f2 c1 c2 c3

theorem cx_new186 {Q : AV → Hp → Prop} (q : ∀ x dx H', Fresh H x → Chg [] H H' → H' x = some (.inst 186 dx) → H' dx = some (.ns [("_forwardcheck", .bool true)]) → Q (.ref x) H') : CX prog w 2 (.ref 186) [] Q H :=
  cx_new1 (f := 164) (by decide) (by decide) (ok164 w) (by decide) (fun x vv e => by
    obtain ⟨y, rfl, e1⟩ := args1 e
    exact ⟨_, bind_164' w y, by simp only [List.map, e1]; rfl⟩) rfl q
theorem cx_new186f {Q : AV → Hp → Prop} (q : ∀ x dx H', Fresh H x → Chg [] H H' → H' x = some (.inst 186 dx) → H' dx = some (.ns [("_forwardcheck", .bool false)]) → Q (.ref x) H') : CX prog w 2 (.ref 186) [.bool false] Q H :=
  cx_new1 (f := 164) (by decide) (by decide) (ok164 w) (by decide) (fun x vv e => by
    obtain ⟨y, z, rfl, e1, e2⟩ := args2 e
    exact ⟨_, bind_164 w y z, by simp [e1, e2]⟩) rfl q
theorem cx_new225 {Q : AV → Hp → Prop} (q : ∀ x dx H', Fresh H x → Chg [] H H' → H' x = some (.inst 225 dx) → H' dx = some (.ns [("_forwardcheck", .bool true)]) → Q (.ref x) H') : CX prog w 2 (.ref 225) [] Q H :=
  cx_new1 (f := 203) (by decide) (by decide) (ok203 w) (by decide) (fun x vv e => by
    obtain ⟨y, rfl, e1⟩ := args1 e
    exact ⟨_, bind_203' w y, by simp only [List.map, e1]; rfl⟩) rfl q
theorem cx_new225f {Q : AV → Hp → Prop} (q : ∀ x dx H', Fresh H x → Chg [] H H' → H' x = some (.inst 225 dx) → H' dx = some (.ns [("_forwardcheck", .bool false)]) → Q (.ref x) H') : CX prog w 2 (.ref 225) [.bool false] Q H :=
  cx_new1 (f := 203) (by decide) (by decide) (ok203 w) (by decide) (fun x vv e => by
    obtain ⟨y, z, rfl, e1, e2⟩ := args2 e
    exact ⟨_, bind_203 w y z, by simp [e1, e2]⟩) rfl q

theorem cx_new410 {i : Int} {Q : AV → Hp → Prop} (q : ∀ x dx H', Fresh H x → Chg [] H H' → H' x = some (.inst 410 dx) → H' dx = some (.ns [("_maxsum", .int i), ("_multipliers", .none)]) → Q (.ref x) H') : CX prog w 2 (.ref 410) [.int i] Q H := by
  refine cx_make (n := 1) (fI := 392) (by decide) fun dx x f1 f2 h => ?_
  obtain ⟨c1, c2, c3⟩ := chg_make (C := 410) (es := [("_maxsum", .int i), ("_multipliers", .none)]) f1 f2 h
  have g1 : (upd (upd H dx (.ns [])) x (.inst 410 dx)) x = some (.inst 410 dx) := by simp [upd]
  have g2 : (upd (upd H dx (.ns [])) x (.inst 410 dx)) dx = some (.ns []) := by rw [upd_ne h]; simp [upd]
  obtain ⟨c4, c5, c6⟩ := chg_make (C := 410) (es := [("_maxsum", .int i)]) f1 f2 h
  refine cx_fn (n := 0) (ok392 w) (locOf [("self", .ref x), ("maxsum", .int i), ("multipliers", .none)]) (fun vv e => ?_) ?_
  · obtain ⟨y, z, rfl, e1, e2⟩ := args2 e
    exact ⟨_, bind_392 w y z, by simp only [List.map, e1, e2]; rfl⟩
  simp only [b392, semSL, semS, semX, semL, VT.of, locOf, List.foldl, upL, if_true]
  simp [e_setAttr_inst g1 g2, e_setAttr_inst c5 c6, AV.plain, instC, retOf, List.lookup]
  have e : upd (upd (upd (upd H dx (.ns [])) x (.inst 410 dx)) dx (.ns [("_maxsum", .int i)])) dx (.ns [("_maxsum", .int i), ("_multipliers", .none)]) = upd (upd (upd H dx (.ns [])) x (.inst 410 dx)) dx (.ns [("_maxsum", .int i), ("_multipliers", .none)]) := by
    funext b; unfold upd; split <;> rfl
  rw [e]
  exact q x dx _ f2 c1 c2 c3
theorem cx_new438 {i : Int} {Q : AV → Hp → Prop} (q : ∀ x dx H', Fresh H x → Chg [] H H' → H' x = some (.inst 438 dx) → H' dx = some (.ns [("_minsum", .int i), ("_multipliers", .none)]) → Q (.ref x) H') : CX prog w 2 (.ref 438) [.int i] Q H := by
  refine cx_make (n := 1) (fI := 427) (by decide) fun dx x f1 f2 h => ?_
  obtain ⟨c1, c2, c3⟩ := chg_make (C := 438) (es := [("_minsum", .int i), ("_multipliers", .none)]) f1 f2 h
  have g1 : (upd (upd H dx (.ns [])) x (.inst 438 dx)) x = some (.inst 438 dx) := by simp [upd]
  have g2 : (upd (upd H dx (.ns [])) x (.inst 438 dx)) dx = some (.ns []) := by rw [upd_ne h]; simp [upd]
  obtain ⟨c4, c5, c6⟩ := chg_make (C := 438) (es := [("_minsum", .int i)]) f1 f2 h
  refine cx_fn (n := 0) (ok427 w) (locOf [("self", .ref x), ("minsum", .int i), ("multipliers", .none)]) (fun vv e => ?_) ?_
  · obtain ⟨y, z, rfl, e1, e2⟩ := args2 e
    exact ⟨_, bind_427 w y z, by simp only [List.map, e1, e2]; rfl⟩
  simp only [b427, semSL, semS, semX, semL, VT.of, locOf, List.foldl, upL, if_true]
  simp [e_setAttr_inst g1 g2, e_setAttr_inst c5 c6, AV.plain, instC, retOf, List.lookup]
  have e : upd (upd (upd (upd H dx (.ns [])) x (.inst 438 dx)) dx (.ns [("_minsum", .int i)])) dx (.ns [("_minsum", .int i), ("_multipliers", .none)]) = upd (upd (upd H dx (.ns [])) x (.inst 438 dx)) dx (.ns [("_minsum", .int i), ("_multipliers", .none)]) := by
    funext b; unfold upd; split <;> rfl
  rw [e]
  exact q x dx _ f2 c1 c2 c3
end
end Csp

namespace Csp
open PySem PySem.W PySem.Calls PyProof.Rows PySem.SeqAt Builtin Builtin.ObjectAttr

section
variable {prog : Program} {w : World} {n : Nat} {G H : Hp}

theorem Fresh.ne {a b : Addr} {x : AO} (f : Fresh H a) (h : H b = some x) : b ≠ a := by rintro rfl; rw [f.1] at h; cases h
theorem Fresh.back {K : Hp} {a : Addr} (f : Fresh K a) (h : Chg [] H K) : Fresh H a := by
  refine ⟨?_, f.2⟩
  cases e : H a with
  | none => rfl
  | some x =>
    have := h a x e (by simp)
    rw [f.1] at this
    cases this
theorem upd_at {a : Addr} {x : AO} : upd H a x a = some x := by simp [upd]
theorem upd_keep {a b : Addr} {x y : AO} (f : Fresh H a) (h : H b = some y) : upd H a x b = some y := by rw [upd_ne (f.ne h)]; exact h
/-- a change at one address -/
theorem upd_old {a b : Addr} {x y : AO} (h : H b = some y) (n : b ≠ a) : upd H a x b = some y := by rw [upd_ne n]; exact h

theorem cx_new466 {l : Addr} {Q : AV → Hp → Prop} (q : ∀ x dx H', Fresh H x → Chg [] H H' → H' x = some (.inst 466 dx) → H' dx = some (.ns [("_set", .ref l), ("_n", .int 1), ("_exact", .bool false)]) → Q (.ref x) H') : CX prog w 2 (.ref 466) [.ref l] Q H := by
  refine cx_make (n := 1) (fI := 455) (by decide) fun dx x f1 f2 h => ?_
  obtain ⟨c1, c2, c3⟩ := chg_make (C := 466) (es := [("_set", .ref l), ("_n", .int 1), ("_exact", .bool false)]) f1 f2 h
  have g1 : (upd (upd H dx (.ns [])) x (.inst 466 dx)) x = some (.inst 466 dx) := by simp [upd]
  have g2 : (upd (upd H dx (.ns [])) x (.inst 466 dx)) dx = some (.ns []) := by rw [upd_ne h]; simp [upd]
  obtain ⟨c4, c5, c6⟩ := chg_make (C := 466) (es := [("_set", .ref l)]) f1 f2 h
  obtain ⟨d4, d5, d6⟩ := chg_make (C := 466) (es := [("_set", .ref l), ("_n", .int 1)]) f1 f2 h
  refine cx_fn (n := 0) (ok455 w) (locOf [("self", .ref x), ("members", .ref l), ("n", .int 1), ("exact", .bool false)]) (fun vv e => ?_) ?_
  · obtain ⟨y, z, rfl, e1, e2⟩ := args2 e
    exact ⟨_, bind_455 w y z, by simp only [List.map, e1, e2]; rfl⟩
  simp only [b455, semSL, semS, semX, semL, VT.of, locOf, List.foldl, upL, if_true]
  simp [e_setAttr_inst g1 g2, e_setAttr_inst c5 c6, e_setAttr_inst d5 d6, AV.plain, instC, retOf, List.lookup, upd_upd]
  exact q x dx _ f2 c1 c2 c3

/-- a new Problem -/
theorem cx_new110 {sv : Addr} {C sdx : Addr} {Q : AV → Hp → Prop} (hs : H sv = some (.inst C sdx)) (hC : C ∈ truthyC)
    (q : ∀ x dx l d ep H', Fresh H x → Chg [] H H' → H' x = some (.inst 110 dx) → H' dx = some (.ns [("_solver", .ref sv), ("_constraints", .ref l), ("_variables", .ref d)]) → H' l = some (.list []) → H' d = some (.dict [] ep) → Fresh H l → Fresh H d → Q (.ref x) H') : CX prog w 2 (.ref 110) [.ref sv] Q H := by
  refine cx_make (n := 1) (fI := 36) (by decide) fun dx x f1 f2 h => ?_
  have g1 : (upd (upd H dx (.ns [])) x (.inst 110 dx)) x = some (.inst 110 dx) := by simp [upd]
  have g2 : (upd (upd H dx (.ns [])) x (.inst 110 dx)) dx = some (.ns []) := by rw [upd_ne h]; simp [upd]
  have v1 : sv ≠ dx := by rintro rfl; rw [f1.1] at hs; cases hs
  have v2 : sv ≠ x := by rintro rfl; rw [f2.1] at hs; cases hs
  have g3 : (upd (upd H dx (.ns [])) x (.inst 110 dx)) sv = some (.inst C sdx) := by rw [upd_ne v2, upd_ne v1]; exact hs
  obtain ⟨c4, c5, c6⟩ := chg_make (C := 110) (es := [("_solver", .ref sv)]) f1 f2 h
  refine cx_fn (n := 0) (ok36 w) (locOf [("self", .ref x), ("solver", .ref sv)]) (fun vv e => ?_) ?_
  · obtain ⟨y, z, rfl, e1, e2⟩ := args2 e
    exact ⟨_, bind_36 w y z, by simp only [List.map, e1, e2]⟩
  simp only [b36, semSL, semS, semX, semL, VT.of, locOf, List.foldl, upL, if_true]
  simp [e_setAttr_inst g1 g2, AV.plain, instC, retOf, List.lookup, upd_upd, truthP, g3, hC, newP]
  intro l fl
  generalize hK : upd (upd (upd H dx (.ns [])) x (.inst 110 dx)) dx (.ns [("_solver", .ref sv)]) = K at c4 c5 c6 fl ⊢
  have a5 := upd_keep (x := .list []) fl c5
  have a6 := upd_keep (x := .list []) fl c6
  rw [e_setAttr_inst a5 a6]
  refine ⟨rfl, by decide, by simp, rfl, fun d ep fd => ?_⟩
  have b5 := upd_keep (x := .dict [] ep) fd (upd_old (x := .ns ([("_solver", .ref sv)] ++ [("_constraints", .ref l)])) a5 (Ne.symm h))
  have b6 := upd_keep (x := .dict [] ep) fd (upd_at (H := upd K l (.list [])) (a := dx) (x := .ns ([("_solver", .ref sv)] ++ [("_constraints", .ref l)])))
  rw [e_setAttr_inst b5 b6]
  refine ⟨rfl, by decide, by simp, rfl, ?_⟩
  have nl : l ≠ dx := fun e => fl.ne c6 e.symm
  have cl := upd_old (x := .ns ([("_solver", .ref sv)] ++ [("_constraints", .ref l)])) (upd_at (H := K) (a := l) (x := .list [])) nl
  have nd : d ≠ dx := fun e => fd.ne upd_at e.symm
  have ck : Chg [] H (upd (upd (upd (upd K l (.list [])) dx (.ns ([("_solver", .ref sv)] ++ [("_constraints", .ref l)]))) d (.dict [] ep)) dx (.ns ([("_solver", .ref sv)] ++ [("_constraints", .ref l)] ++ [("_variables", .ref d)]))) := fun b y e _ => by
    have k := c4 b y e (by simp)
    have n1 := f1.ne e
    exact upd_old (upd_keep fd (upd_old (upd_keep fl k) n1)) n1
  refine q x dx l d ep _ f2 ck (upd_old b5 (Ne.symm h)) upd_at (upd_old (upd_keep fd cl) nl) (upd_old upd_at nd) (fl.back c4) ⟨?_, fd.2⟩
  cases e : H d with
  | none => rfl
  | some y =>
    have := upd_old (x := .ns ([("_solver", .ref sv)] ++ [("_constraints", .ref l)])) (upd_keep (x := .list []) fl (c4 d y e (by simp))) nd
    rw [fd.1] at this; cases this
end
end Csp

namespace Csp
open PySem PySem.W PySem.Calls PyProof.Rows PySem.SeqAt Builtin Builtin.ObjectAttr

section
variable {prog : Program} {w : World} {n : Nat} {G H : Hp}

/-- a new Domain -/
theorem cx_new303 {l : Addr} {ys : List AV} {Q : AV → Hp → Prop} (hl : H l = some (.list ys))
    (q : ∀ d dx h t H', Fresh H d → Fresh H dx → Fresh H h → Fresh H t → Chg [] H H' → DomAt H' d dx h t ys [] [] → Q (.ref d) H') : CX prog w 2 (.ref 303) [.ref l] Q H := by
  refine cx_makeD (n := 1) fun dx x f1 f2 h => ?_
  have l1 := f1.ne hl
  have l2 := f2.ne hl
  have g1 : (upd (upd H dx (.ns [])) x (.dom 303 dx [])) x = some (.dom 303 dx []) := upd_at
  have g2 : (upd (upd H dx (.ns [])) x (.dom 303 dx [])) dx = some (.ns []) := upd_old upd_at h
  have gl : (upd (upd H dx (.ns [])) x (.dom 303 dx [])) l = some (.list ys) := upd_old (upd_old hl l1) l2
  have c0 : Chg [] H (upd (upd H dx (.ns [])) x (.dom 303 dx ys)) := fun b y e _ => upd_old (upd_old e (f1.ne e)) (f2.ne e)
  refine cx_fn (n := 0) (ok272 w) (locOf [("self", .ref x), ("values", .ref l)]) (fun vv e => ?_) ?_
  · obtain ⟨y, z, rfl, e1, e2⟩ := args2 e
    exact ⟨_, bind_272 w y z, by simp only [List.map, e1, e2]⟩
  have m0 : methOf (upd (upd H dx (.ns [])) x (.dom 303 dx [])) (.other (.type "list")) "__init__" = some .linit := by simp [methOf, isListType]
  simp only [b272, semSL, semS, semX, semL, VT.of, locOf, List.foldl, upL, if_true]
  simp [m0, linitP, g1, gl, upd_upd, newP, retOf, AV.plain]
  have p1 : (upd (upd H dx (.ns [])) x (.dom 303 dx ys)) x = some (.dom 303 dx ys) := upd_at
  have p2 : (upd (upd H dx (.ns [])) x (.dom 303 dx ys)) dx = some (.ns []) := upd_old upd_at h
  generalize hK : upd (upd H dx (.ns [])) x (.dom 303 dx ys) = K at c0 p1 p2 ⊢
  intro a fa
  have a1 := upd_keep (x := .list []) fa p1
  have a2 := upd_keep (x := .list []) fa p2
  rw [e_setAttr_dom a1 a2]
  refine ⟨rfl, rfl, by simp, rfl, fun b fb => ?_⟩
  have na : a ≠ dx := fun e => fa.ne p2 e.symm
  have b0 := upd_keep (x := .list []) fb (upd_old (x := .ns ([] ++ [("_hidden", .ref a)])) (upd_at (H := K) (a := a) (x := .list [])) na)
  have b1 := upd_keep (x := .list []) fb (upd_old (x := .ns ([] ++ [("_hidden", .ref a)])) a1 (Ne.symm h))
  have b2 := upd_keep (x := .list []) fb (upd_at (H := upd K a (.list [])) (a := dx) (x := .ns ([] ++ [("_hidden", .ref a)])))
  have nb : b ≠ dx := fun e => fb.ne upd_at e.symm
  have nab : a ≠ b := fb.ne (upd_old upd_at na)
  rw [e_setAttr_dom b1 b2]
  refine ⟨rfl, rfl, by simp, rfl, ?_⟩
  have ck : Chg [] H (upd (upd K a (.list [])) dx (.ns ([] ++ [("_hidden", .ref a)]))) := fun c y e _ => upd_old (upd_keep fa (c0 c y e (by simp))) (f1.ne e)
  refine q x dx a b _ f2 f1 (fa.back c0) (fb.back ck) (fun c y e _ => upd_old (upd_keep fb (ck c y e (by simp))) (f1.ne e)) ⟨upd_old b1 (Ne.symm h), upd_at, upd_old b0 na, upd_old upd_at nb, nab⟩

/-- what _law_number answers -/
def numAt (xs : List Int) (k : Nat) : Int := (xs[k]?).getD (7 * k)
theorem cx_num {sc : Addr} {xs : List Int} {k : Nat} {Q : AV → Hp → Prop} (hs : H sc = some (.rol xs)) (hk : k < 100)
    (q : Q (.int (numAt xs k)) H) : CX prog w 1 (.ref 475) [.ref sc, .int k] Q H := by
  refine cx_fn (n := 0) (ok475 w) (locOf [("script", .ref sc), ("k", .int k)]) (fun vv e => ?_) ?_
  · obtain ⟨y, z, rfl, e1, e2⟩ := args2 e
    exact ⟨_, bind_475 w y z, by simp only [List.map, e1, e2]⟩
  simp only [b475, semSL, semS, semX, semL, VT.of, locOf, List.foldl, upL, if_true]
  simp [biP, lenP, hs, cmpP, truthP, idxP, binP, retOf, getP]
  unfold numAt at q
  by_cases h : k < xs.length
  · rw [if_pos h]
    simp only [hs, List.getElem?_eq_getElem h, Option.getD] at q ⊢
    exact q
  · rw [if_neg h]
    rw [List.getElem?_eq_none (by omega)] at q
    exact ⟨by omega, q⟩
end
end Csp

namespace Csp
open PySem PySem.W PySem.Calls PyProof.Rows PySem.SeqAt Builtin Builtin.ObjectAttr

section
variable {prog : Program} {w : World} {n : Nat} {G H : Hp}

/-- a problem: its solver, its list of constraints, its dict of variables -/
structure ProbAt (G : Hp) (p dx sv l d : Addr) (cs : List AV) (ds : List (Int × AV)) (ep : Nat) : Prop where
  inst : G p = some (.inst 110 dx)
  ns : G dx = some (.ns [("_solver", .ref sv), ("_constraints", .ref l), ("_variables", .ref d)])
  lst : G l = some (.list cs)
  dct : G d = some (.dict ds ep)
  ne : p ≠ 347

theorem cx_64 {p dx sv l d lv : Addr} {cs ys : List AV} {ds : List (Int × AV)} {ep : Nat} {i : Int} {Q : AV → Hp → Prop} (P : ProbAt H p dx sv l d cs ds ep) (hl : H lv = some (.list ys)) (hy : ys ≠ [])
    (hi : (ds.any fun p => p.1 == i) = false) (hz : ds.length < big)
    (q : ∀ e ex h t ep' H', Fresh H e → Fresh H ex → Fresh H h → Fresh H t → Chg [d] H H' → DomAt H' e ex h t ys [] [] → H' d = some (.dict (ds ++ [(i, .ref e)]) ep') → Q .none H') :
    CX prog w 3 (.ref 64) [.ref p, .int i, .ref lv] Q H := by
  refine cx_fn (n := 2) (ok64 w) (locOf [("self", .ref p), ("variable", .int i), ("domain", .ref lv)]) (fun vv e => ?_) ?_
  · obtain ⟨x, y, z, rfl, e1, e2, e3⟩ := args3 e
    exact ⟨_, bind_64 w x y z, by simp only [List.map, e1, e2, e3]⟩
  simp only [b64, semSL, semS, semX, semL, VT.of, locOf, List.foldl, upL, if_true]
  simp [e_attr_inst P.inst P.ns, List.lookup, instC, AV.plain, cmpP, e_in_dict P.dct, hi, truthP, biP, isLTP, hl, callOk, callC]
  refine cx_new303 hl fun e ex h t H' fe fx fh ft c D => ?_
  have a1 := c _ _ P.inst (by simp)
  have a2 := c _ _ P.ns (by simp)
  have a3 := c _ _ P.dct (by simp)
  have nd : d ≠ e := fe.ne P.dct
  have nx : d ≠ ex := fx.ne P.dct
  have nh : d ≠ h := fh.ne P.dct
  have nt : d ≠ t := ft.ne P.dct
  have hst : store ds i (.ref e) = ds ++ [(i, .ref e)] := by
    unfold store
    rw [if_neg]
    simp only [beq_iff_eq, List.any_eq_false, List.any_eq_true, decide_eq_true_eq] at hi ⊢
    rintro ⟨x, m, e⟩
    exact hi x m e
  simp [D.dom, hy, e_attr_inst a1 a2, List.lookup, instC, AV.plain, e_setItem a3, hz, hst, retOf]
  exact fun ep' => q e ex h t ep' _ fe fx fh ft ((c.mono (by simp)).upd (by simp)) ⟨upd_old D.dom nd.symm, upd_old D.ns nx.symm, upd_old D.hid nh.symm, upd_old D.sts nt.symm, D.ne⟩ upd_at

theorem cx_79 {p dx sv l d c cdx : Addr} {C : Addr} {cs : List AV} {ds : List (Int × AV)} {ep : Nat} {v : AV} {Q : AV → Hp → Prop} (P : ProbAt H p dx sv l d cs ds ep) (hc : H c = some (.inst C cdx)) (hC : C ∈ consC) (hz : cs.length < big)
    (q : ∀ z H', Fresh H z → Chg [l] H H' → H' z = some (.tuple [.ref c, v]) → H' l = some (.list (cs ++ [.ref z])) → Q .none H') :
    CX prog w 1 (.ref 79) [.ref p, .ref c, v] Q H := by
  refine cx_fn (n := 0) (ok79 w) (locOf [("self", .ref p), ("constraint", .ref c), ("variables", v)]) (fun vv e => ?_) ?_
  · obtain ⟨x, y, z, rfl, e1, e2, e3⟩ := args3 e
    exact ⟨_, bind_79 w x y z, by simp only [List.map, e1, e2, e3]⟩
  simp only [b79, semSL, semS, semX, semL, VT.of, locOf, List.foldl, upL, if_true]
  simp [biP, isConP, hc, hC, truthP, e_attr_inst P.inst P.ns, List.lookup, instC, AV.plain, e_meth_list P.lst, listMeth, newP, retOf]
  intro z fz
  have b := upd_keep (x := .tuple [.ref c, v]) fz P.lst
  rw [e_app b]
  exact ⟨hz, q z _ fz (((Chg.refl _ _).new fz).upd (by simp)) (upd_old upd_at (fz.ne P.lst).symm) upd_at⟩

theorem cx_79' {p dx sv l d c cdx : Addr} {C : Addr} {cs : List AV} {ds : List (Int × AV)} {ep : Nat} {Q : AV → Hp → Prop} (P : ProbAt H p dx sv l d cs ds ep) (hc : H c = some (.inst C cdx)) (hC : C ∈ consC) (hz : cs.length < big)
    (q : ∀ z H', Fresh H z → Chg [l] H H' → H' z = some (.tuple [.ref c, .none]) → H' l = some (.list (cs ++ [.ref z])) → Q .none H') :
    CX prog w 1 (.ref 79) [.ref p, .ref c] Q H := by
  refine cx_fn (n := 0) (ok79 w) (locOf [("self", .ref p), ("constraint", .ref c), ("variables", .none)]) (fun vv e => ?_) ?_
  · obtain ⟨x, y, rfl, e1, e2⟩ := args2 e
    exact ⟨_, bind_79' w x y, by simp only [List.map, e1, e2]; rfl⟩
  simp only [b79, semSL, semS, semX, semL, VT.of, locOf, List.foldl, upL, if_true]
  simp [biP, isConP, hc, hC, truthP, e_attr_inst P.inst P.ns, List.lookup, instC, AV.plain, e_meth_list P.lst, listMeth, newP, retOf]
  intro z fz
  have b := upd_keep (x := .tuple [.ref c, .none]) fz P.lst
  rw [e_app b]
  exact ⟨hz, q z _ fz (((Chg.refl _ _).new fz).upd (by simp)) (upd_old upd_at (fz.ne P.lst).symm) upd_at⟩
end
end Csp

namespace Csp
open PySem PySem.W PySem.Calls PyProof.Rows PySem.SeqAt Builtin Builtin.ObjectAttr

/-- a variable's Domain: the object, its attributes, its two lists -/
structure Vr where
  d : Addr
  dx : Addr
  h : Addr
  t : Addr
def tab (vt : List Vr) : List (Int × AV) := vt.zipIdx.map fun p => ((p.2 : Int), .ref p.1.d)
def Apart (x y : Vr) : Prop := x.d ≠ y.d ∧ x.h ≠ y.h ∧ x.h ≠ y.t ∧ x.t ≠ y.h ∧ x.t ≠ y.t
def VrAt (H : Hp) (v : Vr) (vis hid sts : List AV) : Prop := DomAt H v.d v.dx v.h v.t vis hid sts
def Fr4 (H : Hp) (v : Vr) : Prop := Fresh H v.d ∧ Fresh H v.dx ∧ Fresh H v.h ∧ Fresh H v.t

theorem tab_snoc (vt : List Vr) (x : Vr) : tab (vt ++ [x]) = tab vt ++ [((vt.length : Int), .ref x.d)] := by
  unfold tab; rw [List.zipIdx_append]; simp
theorem tab_len (vt : List Vr) : (tab vt).length = vt.length := by simp [tab]
theorem tab_no (vt : List Vr) (k : Nat) (h : vt.length ≤ k) : ((tab vt).any fun p => p.1 == (k : Int)) = false := by
  rw [List.any_eq_false]
  intro x hx
  obtain ⟨⟨v, i⟩, m, rfl⟩ := List.mem_map.mp hx
  have := List.snd_lt_of_mem_zipIdx m
  simp only [beq_iff_eq]
  omega

section
variable {prog : Program} {w : World} {n : Nat} {H0 H : Hp}

theorem DomAt.keep {d dx h t a : Addr} {o : AO} {vis hid sts : List AV} (D : DomAt H d dx h t vis hid sts) (f : Fresh H a) : DomAt (Csp.upd H a o) d dx h t vis hid sts :=
  ⟨upd_keep f D.dom, upd_keep f D.ns, upd_keep f D.hid, upd_keep f D.sts, D.ne⟩

def body71 : SL := .cons (.expr (.meth (.loc "self") "addVariable" (.cons (.loc "variable") (.cons (.loc "domain") .nil)))) .nil

theorem step71 {m : Loc} {p lv : Addr} {k : Int} {Q : Fl → Loc → Hp → Prop} (s1 : m "self" = some (.ref p)) (s2 : m "domain" = some (.ref lv)) (mm : methOf H (.ref p) "addVariable" = some (.py 64))
    (h : CX prog w 3 (.ref 64) [.ref p, .int k, .ref lv] (fun _ H' => Q .next (upL m "variable" (.int k)) H') H) :
    bindT ["variable"] (.int k) (fun m'' => semSL (CX prog w 3) body71 Q m'') m H := by
  simp only [body71, bindT, semSL, semS, semX, semL, VT.of, List.foldl, upL, if_true]
  simp [s1, s2, mm]
  exact h

theorem loop71 {p dx sv l d lv r : Addr} {cs ys : List AV} (hp : p ≠ 347) (h1 : H0 p = some (.inst 110 dx)) (h2 : H0 dx = some (.ns [("_solver", .ref sv), ("_constraints", .ref l), ("_variables", .ref d)])) (h3 : H0 l = some (.list cs))
    {ds0 : List (Int × AV)} {ep0 : Nat} (h4 : H0 d = some (.dict ds0 ep0)) (hl : H0 lv = some (.list ys)) (hy : ys ≠ []) {lo hi : Int} (hr : H0 r = some (.range lo hi)) {Q : Fl → Loc → Hp → Prop} (tot : Nat) (htot : tot < 100)
    (q : ∀ vt ep m H', vt.length = tot → Chg [d] H0 H' → H' d = some (.dict (tab vt) ep) → (∀ x ∈ vt, VrAt H' x ys [] [] ∧ Fr4 H0 x) → vt.Pairwise Apart → Q .next m H') :
    ∀ (rem : Nat) (vt : List Vr) (ep : Nat) (m : Loc) (H : Hp), vt.length + rem = tot → Chg [d] H0 H → H d = some (.dict (tab vt) ep) → (∀ x ∈ vt, VrAt H x ys [] [] ∧ Fr4 H0 x) → vt.Pairwise Apart → m "self" = some (.ref p) → m "domain" = some (.ref lv) →
      forL (fun H' => sameSrc H0 H' (.ref r)) (fun y Q' m' H' => bindT ["variable"] y (fun m'' => semSL (CX prog w 3) body71 Q' m'') m' H') (semSL (CX prog w 3) .nil) Q ((List.range' vt.length rem).map fun (k : Nat) => AV.int (k : Int)) m H := by
  have dne : ∀ {a : Addr} {x : AO}, H0 a = some x → (∀ ds e, x ≠ .dict ds e) → a ∉ [d] := by
    intro a x e n hm
    simp only [List.mem_singleton] at hm
    subst hm
    rw [h4] at e
    injection e with e
    exact n _ _ e.symm
  have np : p ∉ [d] := dne h1 (by simp)
  have nx : dx ∉ [d] := dne h2 (by simp)
  have nl : l ∉ [d] := dne h3 (by simp)
  have nv : lv ∉ [d] := dne hl (by simp)
  have nr : r ∉ [d] := dne hr (by simp)
  intro rem
  induction rem with
  | zero =>
    intro vt ep m H e c hd hv hpw s1 s2
    simp only [List.range', List.map, forL, semSL]
    exact ⟨by simp only [sameSrc, hr, c _ _ hr nr, and_self], q vt ep m H (by omega) c hd hv hpw⟩
  | succ k ih =>
    intro vt ep m H e c hd hv hpw s1 s2
    have P : ProbAt H p dx sv l d cs (tab vt) ep := ⟨c _ _ h1 np, c _ _ h2 nx, c _ _ h3 nl, hd, hp⟩
    rw [List.range'_succ, List.map_cons, forL]
    refine ⟨by simp only [sameSrc, hr, c _ _ hr nr, and_self], ?_⟩
    have mm : methOf H (.ref p) "addVariable" = some (.py 64) := by
      rw [e_meth_inst P.inst P.ns hp]; rfl
    refine step71 s1 s2 mm ?_
    refine cx_64 P (c _ _ hl nv) hy (tab_no _ _ (Nat.le_refl _)) (by rw [tab_len]; unfold big; omega) fun a ax h t ep' H' fa fx fh ft ch D hdd => ?_
    have back : ∀ {a : Addr}, Fresh H a → a ≠ d → Fresh H0 a := by
      intro a f n
      refine ⟨?_, f.2⟩
      cases e : H0 a with
      | none => rfl
      | some x =>
        have := c a x e (by simpa using n)
        rw [f.1] at this
        cases this
    have ih' := ih (vt ++ [⟨a, ax, h, t⟩]) ep' (upL m "variable" (.int (vt.length : Int))) H' (by simp; omega) (c.trans ch) (by rw [tab_snoc]; exact hdd) ?_ ?_ (by simp [upL, s1]) (by simp [upL, s2])
    · rw [List.length_append] at ih'; exact ih'
    · intro x hx
      rcases List.mem_append.mp hx with hx | hx
      · obtain ⟨g, f⟩ := hv x hx
        refine ⟨DomAt.chg g ch ?_ ?_ ?_ ?_, f⟩ <;> simp only [List.mem_singleton] <;> rintro rfl
        · exact absurd (f.1.1.symm.trans h4) (by simp)
        · exact absurd (f.2.1.1.symm.trans h4) (by simp)
        · exact absurd (f.2.2.1.1.symm.trans h4) (by simp)
        · exact absurd (f.2.2.2.1.symm.trans h4) (by simp)
      · obtain rfl := List.mem_singleton.mp hx
        exact ⟨D, back fa (fa.ne hd).symm, back fx (fx.ne hd).symm, back fh (fh.ne hd).symm, back ft (ft.ne hd).symm⟩
    · rw [List.pairwise_append]
      refine ⟨hpw, by simp, fun x hx y hy => ?_⟩
      obtain rfl := List.mem_singleton.mp hy
      obtain ⟨g, f⟩ := hv x hx
      exact ⟨fa.ne g.dom, fh.ne g.hid, ft.ne g.hid, fh.ne g.sts, ft.ne g.sts⟩
end
end Csp

namespace Csp
open PySem PySem.W PySem.Calls PyProof.Rows PySem.SeqAt Builtin Builtin.ObjectAttr

section
variable {prog : Program} {w : World} {n : Nat} {H0 H : Hp}

theorem range_items (m : Nat) : (List.range ((m : Int) - 0).toNat).map (fun (k : Nat) => AV.int (0 + (k : Int))) = (List.range' 0 m).map fun (k : Nat) => AV.int (k : Int) := by
  rw [List.range_eq_range']
  simp

/-- addVariables over a range, from an empty table -/
theorem cx_71 {p dx sv l d lv r : Addr} {cs ys : List AV} {ep : Nat} {m : Nat} {Q : AV → Hp → Prop} (P : ProbAt H p dx sv l d cs [] ep) (hl : H lv = some (.list ys)) (hy : ys ≠ []) (hr : H r = some (.range 0 m)) (hm : m < 100)
    (q : ∀ vt ep H', vt.length = m → Chg [d] H H' → H' d = some (.dict (tab vt) ep) → (∀ x ∈ vt, VrAt H' x ys [] [] ∧ Fr4 H x) → vt.Pairwise Apart → Q .none H') :
    CX prog w 4 (.ref 71) [.ref p, .ref r, .ref lv] Q H := by
  refine cx_fn (n := 3) (ok71 w) (locOf [("self", .ref p), ("variables", .ref r), ("domain", .ref lv)]) (fun vv e => ?_) ?_
  · obtain ⟨x, y, z, rfl, e1, e2, e3⟩ := args3 e
    exact ⟨_, bind_71 w x y z, by simp only [List.map, e1, e2, e3]⟩
  show (semX (CX prog w 3) (locOf [("self", .ref p), ("variables", .ref r), ("domain", .ref lv)]) (.loc "variables")).v _ H
  simp only [semX, VT.of, locOf, List.foldl, upL, if_true]
  rw [if_neg (by decide)]
  dsimp only
  rw [e_items_range hr, range_items]
  exact loop71 (prog := prog) (w := w) P.ne P.inst P.ns P.lst P.dct hl hy hr m hm (fun vt ep m' H' a b c d e => by exact q vt ep H' a b c d e) m [] ep _ H (by simp) (Chg.refl _ _) P.dct (by simp) List.Pairwise.nil rfl rfl
end
end Csp

namespace Csp
open PySem PySem.W PySem.Calls PyProof.Rows PySem.SeqAt Builtin Builtin.ObjectAttr

section
variable {prog : Program} {w : World} {n : Nat} {H0 H : Hp}

/-- preProcess of a constraint on several variables does nothing -/
theorem cx_336_skip {c d l vl : Addr} {v dm cs vc : AV} {xs : List AV} {Q : AV → Hp → Prop} (hl : H vl = some (.list xs)) (hx : xs.length ≠ 1) (q : Q .none H) :
    CX prog w 1 (.ref 336) [.ref c, .ref vl, dm, cs, vc] Q H := by
  refine cx_fn (n := 0) (ok336 w) (locOf [("self", .ref c), ("variables", .ref vl), ("domains", dm), ("constraints", cs), ("vconstraints", vc)]) (fun vv e => ?_) ?_
  · obtain ⟨x, y, z, u, v, rfl, e1, e2, e3, e4, e5⟩ := args5 e
    exact ⟨_, bind_336 w x y z u v, by simp only [List.map, e1, e2, e3, e4, e5]⟩
  have hb : (((xs.length : Nat) : Int) == 1) = false := by rw [beq_eq_false_iff_ne]; omega
  have h1 : ¬ ((xs.length : Nat) : Int) = 1 := by omega
  simp only [b336, semSL]
  rw [semS]
  simp only [semX, semL, VT.of, locOf, List.foldl, upL, if_true]
  simp [biP, e_len_list hl, cmpP, eqP, truthP, hb, h1, hx, semSL, retOf, q]
end
end Csp

namespace Csp
open PySem PySem.W PySem.Calls PyProof.Rows PySem.SeqAt Builtin Builtin.ObjectAttr

section
variable {prog : Program} {w : World} {n : Nat} {H0 H : Hp}

/-! MinSumConstraint.__call__ -/
/-- the sum of the values of a list of variables, if all are assigned -/
def sumOf (asg : List (Int × AV)) : List Int → Option Int
  | [] => some 0
  | x :: r => match look asg x, sumOf asg r with
    | some (.int v), some s => some (v + s)
    | _, _ => none

def bodyA435 : SL := .cons (.ife (.cmp .NotIn (.loc "variable") (.loc "assignments")) (.cons (.ret (.lit (.bool true))) .nil) .nil) .nil

theorem step435 {m : Loc} {a : Addr} {asg : List (Int × AV)} {ep : Nat} {k : Int} {Q : Fl → Loc → Hp → Prop} (s1 : m "assignments" = some (.ref a)) (ha : H a = some (.dict asg ep))
    (h : if (asg.any fun p => p.1 == k) then Q .next (upL m "variable" (.int k)) H else Q (.ret (.bool true)) (upL m "variable" (.int k)) H) :
    bindT ["variable"] (.int k) (fun m'' => semSL (CX prog w n) bodyA435 Q m'') m H := by
  simp only [bodyA435, bindT, semSL, semS, semX, semL, VT.of, List.foldl, upL, if_true]
  simp [s1, cmpP, e_in_dict ha]
  cases hh : asg.any fun p => p.1 == k
  · rw [hh] at h; simpa using h
  · rw [hh] at h; simpa using h

theorem loop435a {a vl : Addr} {asg : List (Int × AV)} {ep : Nat} {ys : List AV} {Q : Fl → Loc → Hp → Prop} {fin : ST} (ha : H a = some (.dict asg ep)) (hv : H vl = some (.list ys)) :
    ∀ (xs : List Int) (m : Loc), m "assignments" = some (.ref a) →
      (if xs.all (fun k => asg.any fun p => p.1 == k) then ∀ m', (∀ y, y ≠ "variable" → m' y = m y) → fin Q m' H else ∀ m', Q (.ret (.bool true)) m' H) →
      forL (fun H' => sameSrc H H' (.ref vl)) (fun y Q' m' H' => bindT ["variable"] y (fun m'' => semSL (CX prog w n) bodyA435 Q' m'') m' H') fin Q (xs.map .int) m H := by
  intro xs
  induction xs with
  | nil =>
    intro m s1 h
    simp only [List.map, forL]
    exact ⟨by simp only [sameSrc, hv, and_self], h m fun _ _ => rfl⟩
  | cons x r ih =>
    intro m s1 h
    rw [List.map_cons, forL]
    refine ⟨by simp only [sameSrc, hv, and_self], step435 s1 ha ?_⟩
    cases hh : asg.any fun p => p.1 == x
    · rw [List.all_cons, hh] at h
      exact h _
    · rw [List.all_cons, hh] at h
      refine ih _ (by simp [upL, s1]) ?_
      cases hr : r.all (fun k => asg.any fun p => p.1 == k)
      · rw [hr] at h; exact h
      · rw [hr] at h
        exact fun m' e => h m' fun y ny => by rw [e y ny]; simp [upL, ny]
end
end Csp

namespace Csp
open PySem PySem.W PySem.Calls PyProof.Rows PySem.SeqAt Builtin Builtin.ObjectAttr

section
variable {prog : Program} {w : World} {n : Nat} {H0 H : Hp}

def bodyB435 : SL := .cons (.aug "sum" .Add (.idx (.loc "assignments") (.loc "variable"))) .nil

theorem step435b {m : Loc} {a : Addr} {asg : List (Int × AV)} {ep : Nat} {k s v : Int} {Q : Fl → Loc → Hp → Prop} (s1 : m "assignments" = some (.ref a)) (s2 : m "sum" = some (.int s)) (ha : H a = some (.dict asg ep))
    (hk : look asg k = some (.int v)) (h : Q .next (upL (upL m "variable" (.int k)) "sum" (.int (s + v))) H) :
    bindT ["variable"] (.int k) (fun m'' => semSL (CX prog w n) bodyB435 Q m'') m H := by
  simp only [bodyB435, bindT, semSL, semS, semX, semL, VT.of, List.foldl, upL, if_true]
  simp [s1, s2, e_idx_dict ha, hk, augP]
  exact h

theorem loop435b {a vl : Addr} {asg : List (Int × AV)} {ep : Nat} {ys : List AV} {Q : Fl → Loc → Hp → Prop} (ha : H a = some (.dict asg ep)) (hv : H vl = some (.list ys)) :
    ∀ (xs : List Int) (m : Loc) (s t : Int), m "assignments" = some (.ref a) → m "sum" = some (.int s) → sumOf asg xs = some t →
      (∀ m', (∀ y, y ≠ "variable" → y ≠ "sum" → m' y = m y) → m' "sum" = some (.int (s + t)) → Q .next m' H) →
      forL (fun H' => sameSrc H H' (.ref vl)) (fun y Q' m' H' => bindT ["variable"] y (fun m'' => semSL (CX prog w n) bodyB435 Q' m'') m' H') (semSL (CX prog w n) .nil) Q (xs.map .int) m H := by
  intro xs
  induction xs with
  | nil =>
    intro m s t s1 s2 ht h
    simp only [List.map, forL, semSL]
    simp only [sumOf, Option.some.injEq] at ht
    subst ht
    exact ⟨by simp only [sameSrc, hv, and_self], h m (fun _ _ _ => rfl) (by simpa using s2)⟩
  | cons x r ih =>
    intro m s t s1 s2 ht h
    simp only [sumOf] at ht
    split at ht
    · rename_i v u e1 e2
      injection ht with ht
      subst ht
      rw [List.map_cons, forL]
      refine ⟨by simp only [sameSrc, hv, and_self], step435b s1 s2 ha e1 ?_⟩
      refine ih _ (s + v) u (by simp [upL, s1]) (by simp [upL]) e2 fun m' k1 k2 => h m' (fun y n1 n2 => ?_) (by rw [k2]; congr 2; omega)
      rw [k1 y n1 n2]; simp [upL, n1, n2]
    · cases ht
end
end Csp

namespace Csp
open PySem PySem.W PySem.Calls PyProof.Rows PySem.SeqAt Builtin Builtin.ObjectAttr

section
variable {prog : Program} {w : World} {n : Nat} {H0 H : Hp}

theorem cx_435 {c cdx vl a : Addr} {i : Int} {xs : List Int} {asg : List (Int × AV)} {ep : Nat} {dm fc : AV} {Q : AV → Hp → Prop} (hc : H c = some (.inst 438 cdx)) (hcx : H cdx = some (.ns [("_minsum", .int i), ("_multipliers", .none)]))
    (hv : H vl = some (.list (xs.map .int))) (ha : H a = some (.dict asg ep)) 
    (q : if xs.all (fun k => asg.any fun p => p.1 == k) then ∃ t, sumOf asg xs = some t ∧ Q (.bool (decide (t ≥ i))) H else Q (.bool true) H) :
    CX prog w 1 (.ref 435) [.ref c, .ref vl, dm, .ref a, fc] Q H := by
  refine cx_fn (n := 0) (ok435 w) (locOf [("self", .ref c), ("variables", .ref vl), ("domains", dm), ("assignments", .ref a), ("forwardcheck", fc)]) (fun vv e => ?_) ?_
  · obtain ⟨x, y, z, u, v, rfl, e1, e2, e3, e4, e5⟩ := args5 e
    exact ⟨_, bind_435 w x y z u v, by simp only [List.map, e1, e2, e3, e4, e5]⟩
  have l1 : locOf [("self", .ref c), ("variables", .ref vl), ("domains", dm), ("assignments", .ref a), ("forwardcheck", fc)] "variables" = some (.ref vl) := rfl
  rw [b435, semSL, semS]
  simp only [semX, VT.of, l1, e_items_list hv]
  refine loop435a (prog := prog) (w := w) (n := 0) ha hv xs (locOf [("self", .ref c), ("variables", .ref vl), ("domains", dm), ("assignments", .ref a), ("forwardcheck", fc)]) rfl ?_
  cases hh : xs.all fun k => asg.any fun p => p.1 == k
  · rw [hh] at q
    exact fun m' => q
  · rw [hh] at q
    obtain ⟨t, ht, q⟩ := q
    intro m' hm
    have m1 := (hm "self" (by decide)).trans (rfl : _ = some (AV.ref c))
    have m2 := (hm "variables" (by decide)).trans l1
    have m3 := (hm "assignments" (by decide)).trans (rfl : _ = some (AV.ref a))
    simp only [semSL]
    rw [semS]
    simp only [semX, VT.of, m1, e_attr_inst hc hcx, List.lookup]
    refine ⟨by decide, rfl, ?_⟩
    rw [semS]
    simp [semX, VT.of, upL, m1, e_attr_inst hc hcx, List.lookup, instC, AV.plain, semS, truthP]
    rw [semSL, semS]
    have m4 : (upL (upL (upL m' "multipliers" .none) "minsum" (.int i)) "sum" (.int 0)) "variables" = some (.ref vl) := by simp [upL, m2]
    simp only [semX, VT.of, m4, e_items_list hv]
    refine loop435b (prog := prog) (w := w) (n := 0) ha hv xs _ 0 t (by simp [upL, m3]) (by simp [upL]) ht fun m'' k1 k2 => ?_
    have k3 := (k1 "minsum" (by decide) (by decide)).trans (show _ = some (AV.int i) by simp [upL])
    simp [semSL, k2, k3, cmpP, retOf]
    simpa using q
end
end Csp

namespace Csp
open PySem PySem.W PySem.Calls PyProof.Rows PySem.SeqAt Builtin Builtin.ObjectAttr

theorem eraseInt_mid (A B : List Int) (x : Int) (h : x ∉ A) : eraseInt ((A ++ x :: B).map .int) x = (A ++ B).map .int := by
  induction A with
  | nil => simp [eraseInt, AV.num]
  | cons a r ih =>
    simp only [List.mem_cons, not_or] at h
    simp [eraseInt, AV.num, Ne.symm h.1] at ih ⊢
    exact ih h.2
end Csp

namespace Csp
open PySem PySem.W PySem.Calls PyProof.Rows PySem.SeqAt Builtin Builtin.ObjectAttr

section
variable {prog : Program} {w : World} {n : Nat} {H0 H : Hp}

def bodyHide (c : E) : SL := .cons (.ife c (.cons (.expr (.meth (.loc "domain") "hideValue" (.cons (.loc "value") .nil))) .nil) .nil) .nil

theorem stepHide {c : E} {m : Loc} {v : Vr} {vis hid sts : List AV} {x : Int} {b : Bool} {Q : Fl → Loc → Hp → Prop} (D : VrAt H v vis hid sts) (s1 : m "domain" = some (.ref v.d))
    (hc : ∀ R : Bool → Hp → Prop, R b H → (semX (CX prog w 1) (upL m "value" (.int x)) c).t R H) (hz : hid.length < big)
    (hb : b = true → vis.all AV.isInt = true ∧ vis.any (fun y => y.num == x) = true)
    (q : if b then ∀ H', H' = upd (upd H v.d (.dom 303 v.dx (eraseInt vis x))) v.h (.list (hid ++ [.int x])) → Q .next (upL m "value" (.int x)) H' else Q .next (upL m "value" (.int x)) H) :
    bindT ["value"] (.int x) (fun m'' => semSL (CX prog w 1) (bodyHide c) Q m'') m H := by
  have mm : methOf H (.ref v.d) "hideValue" = some (.py 300) := by
    rw [e_meth_dom D.dom D.ns (by decide)]; rfl
  simp only [bindT, bodyHide, semSL]
  rw [semS]
  refine hc _ ?_
  cases b
  · simpa [semSL] using q
  · obtain ⟨h1, h2⟩ := hb rfl
    simp [semSL, semS, semX, semL, VT.of, upL, s1, mm]
    exact cx_hide D hz h1 h2 (q _ rfl)
end
end Csp

namespace Csp
open PySem PySem.W PySem.Calls PyProof.Rows PySem.SeqAt Builtin Builtin.ObjectAttr

theorem all_ints (xs : List Int) : (xs.map AV.int).all AV.isInt = true := by
  rw [List.all_eq_true]; intro x hx; obtain ⟨i, _, rfl⟩ := List.mem_map.mp hx; rfl
theorem any_num (xs : List Int) (x : Int) : (xs.map AV.int).any (fun y => y.num == x) = decide (x ∈ xs) := by
  induction xs with
  | nil => rfl
  | cons a r ih =>
    rw [List.map_cons, List.any_cons, ih]
    by_cases h : a = x
    · subst h; simp [AV.num]
    · have h' : ¬ x = a := fun e => h e.symm
      simp [AV.num, h, h']

section
variable {prog : Program} {w : World} {n : Nat} {H0 H : Hp}

/-- the heap after a domain took on new lists -/
theorem VrAt.hide {v : Vr} {vis hid sts : List AV} (D : VrAt H v vis hid sts) (vis' hid' : List AV) : VrAt (upd (upd H v.d (.dom 303 v.dx vis')) v.h (.list hid')) v vis' hid' sts := by
  have hd : v.dx ≠ v.d := fun e => by have := D.ns; rw [e, D.dom] at this; exact absurd this (by simp)
  have hh : v.h ≠ v.d := fun e => by have := D.hid; rw [e, D.dom] at this; exact absurd this (by simp)
  have ht : v.t ≠ v.d := fun e => by have := D.sts; rw [e, D.dom] at this; exact absurd this (by simp)
  have hhx : v.h ≠ v.dx := fun e => by have := D.hid; rw [e, D.ns] at this; exact absurd this (by simp)
  exact ⟨upd_old upd_at hh.symm, upd_old (upd_old D.ns hd) hhx.symm, upd_at, upd_old (upd_old D.sts ht) D.ne.symm, D.ne⟩

theorem loopHide {c : E} {v : Vr} {sts zs : List AV} {z : Addr} {P : Int → Bool} {Q : Fl → Loc → Hp → Prop} (m0 : Loc) (s1 : m0 "domain" = some (.ref v.d)) (h0 : H0 z = some (.list zs)) (hz : z ∉ [v.d, v.h])
    (hc : ∀ (x : Int) (m : Loc) (H : Hp) (R : Bool → Hp → Prop), m "value" = some (.int x) → (∀ y, y ≠ "value" → m y = m0 y) → Chg [v.d, v.h] H0 H → R (P x) H → (semX (CX prog w 1) m c).t R H) :
    ∀ (rest A : List Int) (m : Loc) (H : Hp) (hid : List Int), (∀ y, y ≠ "value" → m y = m0 y) → Chg [v.d, v.h] H0 H → VrAt H v ((A ++ rest).map .int) (hid.map .int) sts → (A ++ rest).Nodup → hid.length + rest.length < big →
      (∀ m' H', (∀ y, y ≠ "value" → m' y = m0 y) → Chg [v.d, v.h] H0 H' → VrAt H' v ((A ++ rest.filter fun x => !P x).map .int) ((hid ++ rest.filter P).map .int) sts → Q .next m' H') →
      forL (fun H' => sameSrc H0 H' (.ref z)) (fun y Q' m' H' => bindT ["value"] y (fun m'' => semSL (CX prog w 1) (bodyHide c) Q' m'') m' H') (semSL (CX prog w 1) .nil) Q (rest.map .int) m H := by
  intro rest
  induction rest with
  | nil =>
    intro A m H hid k1 k2 D nd sz q
    simp only [List.map, forL, semSL]
    refine ⟨by simp only [sameSrc, h0, k2 _ _ h0 hz, and_self], q m H k1 k2 (by simpa using D)⟩
  | cons x r ih =>
    intro A m H hid k1 k2 D nd sz q
    rw [List.map_cons, forL]
    refine ⟨by simp only [sameSrc, h0, k2 _ _ h0 hz, and_self], ?_⟩
    have s1' : m "domain" = some (.ref v.d) := (k1 _ (by decide)).trans s1
    have nx : x ∉ A := fun hm => by
      rw [List.nodup_append] at nd
      exact nd.2.2 x hm x (by simp) rfl
    refine stepHide (b := P x) D s1' (fun R hR => hc x _ H R (by simp [upL]) (fun y ny => by simp [upL, ny, k1 y ny]) k2 hR) (by simp at sz ⊢; omega) (fun _ => ⟨all_ints _, by rw [any_num]; simp⟩) ?_
    have k1' : ∀ y, y ≠ "value" → upL m "value" (.int x) y = m0 y := fun y ny => by simp [upL, ny, k1 y ny]
    cases hp : P x
    · refine ih (A ++ [x]) _ H hid k1' k2 (by simpa using D) (by simpa using nd) (by simp at sz ⊢; omega) fun m' H' a b d => q m' H' a b ?_
      simpa [hp] using d
    · intro H' e
      subst e
      have e1 := eraseInt_mid A r x nx
      refine ih A _ _ (hid ++ [x]) k1' ((k2.upd (by simp)).upd (by simp)) ?_ ?_ (by simp at sz ⊢; omega) fun m' H' a b d => q m' H' a b ?_
      · have := VrAt.hide D (eraseInt ((A ++ x :: r).map .int) x) (hid.map .int ++ [.int x])
        rw [e1] at this ⊢
        simpa using this
      · rw [List.nodup_append] at nd ⊢
        refine ⟨nd.1, (List.nodup_cons.mp nd.2.1).2, fun a ha b hb => nd.2.2 a ha b (by simp [hb])⟩
      · simpa [hp] using d
end
end Csp

namespace Csp
open PySem PySem.W PySem.Calls PyProof.Rows PySem.SeqAt Builtin Builtin.ObjectAttr

section
variable {prog : Program} {w : World} {n : Nat} {H0 H : Hp}

/-! MaxSumConstraint.__call__ : the sum of what is assigned -/
/-- the sum of the assigned values of a list of variables -/
def partOf (asg : List (Int × AV)) : List Int → Int
  | [] => 0
  | x :: r => (match look asg x with | some (.int v) => v | _ => 0) + partOf asg r

def bodyA407 : SL := .cons (.ife (.cmp .In (.loc "variable") (.loc "assignments")) (.cons (.aug "sum" .Add (.idx (.loc "assignments") (.loc "variable"))) .nil) .nil) .nil

theorem look_any {asg : List (Int × AV)} {k : Int} : (asg.any fun p => p.1 == k) = (look asg k).isSome := by
  unfold look
  induction asg with
  | nil => rfl
  | cons a r ih =>
    rw [List.any_cons, List.find?_cons]
    by_cases h : a.1 = k
    · simp [h]
    · have hb : (a.1 == k) = false := by simpa using h
      rw [hb, ih]; simp [h]

theorem step407a {m : Loc} {a : Addr} {asg : List (Int × AV)} {ep : Nat} {k s : Int} {Q : Fl → Loc → Hp → Prop} (s1 : m "assignments" = some (.ref a)) (s2 : m "sum" = some (.int s)) (ha : H a = some (.dict asg ep))
    (hi : ∀ v, look asg k = some v → ∃ i, v = .int i)
    (h : ∀ m', (∀ y, y ≠ "variable" → y ≠ "sum" → m' y = m y) → m' "sum" = some (.int (s + (match look asg k with | some (.int v) => v | _ => 0))) → Q .next m' H) :
    bindT ["variable"] (.int k) (fun m'' => semSL (CX prog w n) bodyA407 Q m'') m H := by
  simp only [bodyA407, bindT, semSL, semS, semX, semL, VT.of, List.foldl, upL, if_true]
  simp [s1, s2, cmpP, e_in_dict ha, e_idx_dict ha, -List.any_eq_true, -List.any_eq_false, look_any]
  cases hk : look asg k with
  | none =>
    simp
    exact h _ (fun y n1 n2 => by simp [upL, n1]) (by simp [upL, s2, hk])
  | some v =>
    obtain ⟨i, rfl⟩ := hi v hk
    simp
    rw [e_idx_dict ha, hk]
    simp only [augP]
    exact h (upL (upL m "variable" (.int k)) "sum" (.int (s + i))) (fun y n1 n2 => by simp [upL, n1, n2]) (by simp [upL, hk])
end
end Csp

namespace Csp
open PySem PySem.W PySem.Calls PyProof.Rows PySem.SeqAt Builtin Builtin.ObjectAttr

section
variable {prog : Program} {w : World} {n : Nat} {H0 H : Hp}

theorem loop407a {a vl : Addr} {asg : List (Int × AV)} {ep : Nat} {ys : List AV} {Q : Fl → Loc → Hp → Prop} (ha : H a = some (.dict asg ep)) (hv : H vl = some (.list ys)) (hi : ∀ k v, look asg k = some v → ∃ i, v = .int i) :
    ∀ (xs : List Int) (m : Loc) (s : Int), m "assignments" = some (.ref a) → m "sum" = some (.int s) →
      (∀ m', (∀ y, y ≠ "variable" → y ≠ "sum" → m' y = m y) → m' "sum" = some (.int (s + partOf asg xs)) → Q .next m' H) →
      forL (fun H' => sameSrc H H' (.ref vl)) (fun y Q' m' H' => bindT ["variable"] y (fun m'' => semSL (CX prog w n) bodyA407 Q' m'') m' H') (semSL (CX prog w n) .nil) Q (xs.map .int) m H := by
  intro xs
  induction xs with
  | nil =>
    intro m s s1 s2 h
    simp only [List.map, forL, semSL]
    exact ⟨by simp only [sameSrc, hv, and_self], h m (fun _ _ _ => rfl) (by simpa [partOf] using s2)⟩
  | cons x r ih =>
    intro m s s1 s2 h
    rw [List.map_cons, forL]
    refine ⟨by simp only [sameSrc, hv, and_self], step407a s1 s2 ha (hi x) fun m' k1 k2 => ?_⟩
    refine ih m' _ ((k1 _ (by decide) (by decide)).trans s1) k2 fun m'' l1 l2 => h m'' (fun y n1 n2 => (l1 y n1 n2).trans (k1 y n1 n2)) (by rw [l2, partOf, Int.add_assoc])
end
end Csp

namespace Csp
open PySem PySem.W PySem.Calls PyProof.Rows PySem.SeqAt Builtin Builtin.ObjectAttr

/-- what a domain holds -/
structure DS where
  vis : List Int
  hid : List Int
  sts : List Int
abbrev Sg := Nat → DS
def Sg.set (σ : Sg) (i : Nat) (s : DS) : Sg := fun j => if j = i then s else σ j
def Doms (H : Hp) (vt : List Vr) (σ : Sg) : Prop := ∀ i v, vt[i]? = some v → VrAt H v ((σ i).vis.map .int) ((σ i).hid.map .int) ((σ i).sts.map .int)
/-- the addresses that a solver may change in the domains -/
def dynOf (vt : List Vr) : List Addr := vt.flatMap fun v => [v.d, v.h, v.t]
def hideS (P : Int → Bool) (s : DS) : DS := ⟨s.vis.filter fun x => !P x, s.hid ++ s.vis.filter P, s.sts⟩
/-- a forward check over the unassigned variables of a list -/
def fcW (P : Int → Bool) (α : Nat → Bool) : List Nat → Sg → Bool × Sg
  | [], σ => (true, σ)
  | k :: r, σ => if α k then fcW P α r σ else
      if (hideS P (σ k)).vis.isEmpty then (false, σ.set k (hideS P (σ k))) else fcW P α r (σ.set k (hideS P (σ k)))

theorem tab_look (vt : List Vr) (k : Nat) (v : Vr) (h : vt[k]? = some v) : look (tab vt) k = some (.ref v.d) := by
  unfold look tab
  rw [List.find?_map, Option.map_map]
  have : (vt.zipIdx.find? ((fun p : Int × AV => decide (p.1 = (k : Int))) ∘ fun p : Vr × Nat => ((p.2 : Int), AV.ref p.1.d))) = some (v, k) := by
    rw [List.find?_eq_some_iff_getElem]
    obtain ⟨hk, e⟩ := List.getElem?_eq_some_iff.mp h
    refine ⟨by simp, k, by simpa using hk, by simp [e], fun j hj => ?_⟩
    simp
    omega
  rw [this]; rfl

theorem pw_ne {vt : List Vr} (hp : vt.Pairwise Apart) {i j : Nat} {v u : Vr} (hi : vt[i]? = some v) (hj : vt[j]? = some u) (hne : i ≠ j) : v.d ≠ u.d ∧ v.h ≠ u.h ∧ v.h ≠ u.t ∧ v.t ≠ u.h ∧ v.t ≠ u.t := by
  rw [List.pairwise_iff_getElem] at hp
  obtain ⟨h1, e1⟩ := List.getElem?_eq_some_iff.mp hi
  obtain ⟨h2, e2⟩ := List.getElem?_eq_some_iff.mp hj
  rcases Nat.lt_or_gt_of_ne hne with l | l
  · have := hp i j h1 h2 l
    rw [e1, e2] at this
    exact this
  · obtain ⟨a, b, c, d, e⟩ := hp j i h2 h1 l
    rw [e1, e2] at *
    exact ⟨a.symm, b.symm, d.symm, c.symm, e.symm⟩

/-- a change within one domain -/
theorem Doms.one {H H' : Hp} {vt : List Vr} {σ : Sg} (D : Doms H vt σ) (hp : vt.Pairwise Apart) {k : Nat} {v : Vr} (hk : vt[k]? = some v) {s : DS} (c : Chg [v.t, v.d, v.h] H H') (n : VrAt H' v (s.vis.map .int) (s.hid.map .int) (s.sts.map .int)) : Doms H' vt (σ.set k s) := by
  intro i u hi
  by_cases e : i = k
  · subst e
    rw [hk] at hi
    injection hi with hi
    subst hi
    simp only [Sg.set, if_true]
    exact n
  · obtain ⟨a1, a2, a3, a4, a5⟩ := pw_ne hp hi hk e
    have U := D i u hi
    have V := D k v hk
    simp only [Sg.set, if_neg e]
    refine DomAt.chg U c ?_ ?_ ?_ ?_ <;> simp only [List.mem_cons, List.not_mem_nil, or_false, not_or]
    · refine ⟨fun e => ?_, a1, fun e => ?_⟩
      · have := U.dom; rw [e, V.sts] at this; exact absurd this (by simp)
      · have := U.dom; rw [e, V.hid] at this; exact absurd this (by simp)
    · refine ⟨fun e => ?_, fun e => ?_, fun e => ?_⟩
      · have := U.ns; rw [e, V.sts] at this; exact absurd this (by simp)
      · have := U.ns; rw [e, V.dom] at this; exact absurd this (by simp)
      · have := U.ns; rw [e, V.hid] at this; exact absurd this (by simp)
    · refine ⟨a3, fun e => ?_, a2⟩
      have := U.hid; rw [e, V.dom] at this; exact absurd this (by simp)
    · refine ⟨a5, fun e => ?_, a4⟩
      have := U.sts; rw [e, V.dom] at this; exact absurd this (by simp)
end Csp

namespace Csp
open PySem PySem.W PySem.Calls PyProof.Rows PySem.SeqAt Builtin Builtin.ObjectAttr

section
variable {prog : Program} {w : World} {n : Nat} {H0 H : Hp}

def bodyFC (c : E) : SL := .cons (.ife (.cmp .NotIn (.loc "variable") (.loc "assignments")) (.cons (.assign "domain" (.idx (.loc "domains") (.loc "variable"))) (.cons (.for1 ["value"] (.full (.loc "domain")) (bodyHide c) .nil) (.cons (.ife (.not (.loc "domain")) (.cons (.ret (.lit (.bool false))) .nil) .nil) .nil))) .nil) .nil

theorem stepFC0 {c : E} {m : Loc} {a : Addr} {asg : List (Int × AV)} {ep : Nat} {k : Int} {Q : Fl → Loc → Hp → Prop} (s1 : m "assignments" = some (.ref a)) (ha : H a = some (.dict asg ep)) (hk : (asg.any fun p => p.1 == k) = true)
    (q : Q .next (upL m "variable" (.int k)) H) : bindT ["variable"] (.int k) (fun m'' => semSL (CX prog w 1) (bodyFC c) Q m'') m H := by
  simp only [bodyFC, bindT]
  rw [semSL, semS]
  simp only [semX, VT.of, upL, s1]
  simp [cmpP, e_in_dict ha, s1, hk, semSL]
  exact q
end
end Csp

namespace Csp
open PySem PySem.W PySem.Calls PyProof.Rows PySem.SeqAt Builtin Builtin.ObjectAttr

section
variable {prog : Program} {w : World} {n : Nat} {H0 H : Hp}

theorem stepFC1 {c : E} {P : Int → Bool} {m : Loc} {a dd : Addr} {asg : List (Int × AV)} {ep ep2 : Nat} {vt : List Vr} {k : Nat} {v : Vr} {s : DS} {Q : Fl → Loc → Hp → Prop} (s1 : m "assignments" = some (.ref a)) (s3 : m "domains" = some (.ref dd))
    (ha : H a = some (.dict asg ep)) (hd : H dd = some (.dict (tab vt) ep2)) (hk : (asg.any fun p => p.1 == (k : Int)) = false) (hv : vt[k]? = some v) (D : VrAt H v (s.vis.map .int) (s.hid.map .int) (s.sts.map .int)) (nd : s.vis.Nodup) (sz : s.hid.length + s.vis.length < big)
    (hc : ∀ (x : Int) (m' : Loc) (H' : Hp) (R : Bool → Hp → Prop), m' "value" = some (.int x) → (∀ y, y ≠ "value" → y ≠ "domain" → y ≠ "variable" → m' y = m y) → Chg [v.d, v.h] H H' → R (P x) H' → (semX (CX prog w 1) m' c).t R H')
    (q : ∀ m' H', (∀ y, y ≠ "value" → y ≠ "domain" → y ≠ "variable" → m' y = m y) → Chg [v.d, v.h] H H' → VrAt H' v ((hideS P s).vis.map .int) ((hideS P s).hid.map .int) ((hideS P s).sts.map .int) → if (hideS P s).vis.isEmpty then Q (.ret (.bool false)) m' H' else Q .next m' H') :
    bindT ["variable"] (.int (k : Int)) (fun m'' => semSL (CX prog w 1) (bodyFC c) Q m'') m H := by
  simp only [bodyFC, bindT]
  rw [semSL, semS]
  simp only [semX, VT.of, upL, s1]
  simp [cmpP, e_in_dict ha, s1, hk]
  rw [semSL, semSL, semS]
  simp [semX, VT.of, upL, s3, e_idx_dict hd, tab_look vt k v hv]
  rw [semSL, semS]
  simp only [semX, VT.of, upL, if_true, e_full_dom D.dom, newP]
  intro z fz
  have hz : upd H z (.list (s.vis.map .int)) z = some (.list (s.vis.map .int)) := upd_at
  simp only [e_items_list hz]
  have cz : Chg [v.d, v.h] H (upd H z (.list (s.vis.map .int))) := (Chg.refl _ _).new fz
  have D' : VrAt (upd H z (.list (s.vis.map .int))) v (([] ++ s.vis).map .int) (s.hid.map .int) (s.sts.map .int) := DomAt.keep D fz
  refine loopHide (P := P) (H0 := upd H z (.list (s.vis.map .int))) (m0 := upL (upL m "variable" (.int k)) "domain" (.ref v.d)) (by simp [upL]) hz ?_ (fun x m' H' R e1 e2 e3 r => hc x m' H' R e1 (fun y n1 n2 n3 => by rw [e2 y n1]; simp [upL, n2, n3]) (cz.trans e3) r) s.vis [] _ _ s.hid (fun y _ => rfl) (Chg.refl _ _) D' (by simpa using nd) sz ?_
  · have h1 := fz.ne D.dom
    have h2 := fz.ne D.hid
    simp [h1.symm, h2.symm]
  · intro m' H' e1 e2 D2
    have k1 : m' "domain" = some (.ref v.d) := (e1 _ (by decide)).trans (by simp [upL])
    have fr : ∀ y, y ≠ "value" → y ≠ "domain" → y ≠ "variable" → m' y = m y := fun y n1 n2 n3 => by rw [e1 y n1]; simp [upL, n2, n3]
    have q' := q m' H' fr (cz.trans e2) (by simpa [hideS] using D2)
    simp only [semSL, semS, semX, VT.of, k1, e_truth_dom D2.dom]
    have he : (List.map AV.int ([] ++ List.filter (fun x => !P x) s.vis)).isEmpty = (hideS P s).vis.isEmpty := by
      simp only [hideS, List.nil_append]
      cases List.filter (fun x => !P x) s.vis <;> rfl
    rw [he, Bool.not_not]
    cases hh : (hideS P s).vis.isEmpty
    · rw [hh] at q'; exact q'
    · rw [hh] at q'; exact q'
end
end Csp

namespace Csp
open PySem PySem.W PySem.Calls PyProof.Rows PySem.SeqAt Builtin Builtin.ObjectAttr

theorem dyn_mem {vt : List Vr} {k : Nat} {v : Vr} (h : vt[k]? = some v) : v.d ∈ dynOf vt ∧ v.h ∈ dynOf vt ∧ v.t ∈ dynOf vt := by
  have hm : v ∈ vt := List.mem_of_getElem? h
  unfold dynOf
  simp only [List.mem_flatMap]
  exact ⟨⟨v, hm, by simp⟩, ⟨v, hm, by simp⟩, ⟨v, hm, by simp⟩⟩
/-- the size of a domain's lists, and no value twice -/
def okS (s : DS) : Prop := s.vis.Nodup ∧ s.hid.length + s.vis.length < 100
theorem okS.hide {s : DS} {P : Int → Bool} (h : okS s) : okS (hideS P s) := by
  refine ⟨List.Nodup.sublist List.filter_sublist h.1, ?_⟩
  have h2 := h.2
  have : ∀ l : List Int, (l.filter P).length + (l.filter fun x => !P x).length = l.length := by
    intro l
    induction l with
    | nil => rfl
    | cons a r ih => cases hp : P a <;> simp [hp] <;> omega
  have := this s.vis
  simp only [hideS, List.length_append]
  omega

section
variable {prog : Program} {w : World} {n : Nat} {H0 H : Hp}

theorem loopFC {c : E} {P : Int → Bool} {a dd vl : Addr} {asg : List (Int × AV)} {ep ep2 : Nat} {vt : List Vr} {ys : List AV} {Q : Fl → Loc → Hp → Prop} (m0 : Loc) (s1 : m0 "assignments" = some (.ref a)) (s3 : m0 "domains" = some (.ref dd))
    (ha : H0 a = some (.dict asg ep)) (hd : H0 dd = some (.dict (tab vt) ep2)) (hl : H0 vl = some (.list ys)) (na : a ∉ dynOf vt) (ndd : dd ∉ dynOf vt) (nl : vl ∉ dynOf vt) (hp : vt.Pairwise Apart)
    (hc : ∀ (x : Int) (m' : Loc) (H' : Hp) (R : Bool → Hp → Prop), m' "value" = some (.int x) → (∀ y, y ≠ "value" → y ≠ "domain" → y ≠ "variable" → m' y = m0 y) → Chg (dynOf vt) H0 H' → R (P x) H' → (semX (CX prog w 1) m' c).t R H') :
    ∀ (ks : List Nat) (m : Loc) (H : Hp) (σ : Sg), (∀ k ∈ ks, k < vt.length) → (∀ y, y ≠ "value" → y ≠ "domain" → y ≠ "variable" → m y = m0 y) → Chg (dynOf vt) H0 H → Doms H vt σ → (∀ i, i < vt.length → okS (σ i)) →
      (∀ m' H', (∀ y, y ≠ "value" → y ≠ "domain" → y ≠ "variable" → m' y = m0 y) → Chg (dynOf vt) H0 H' → Doms H' vt (fcW P (fun k => asg.any fun p => p.1 == (k : Int)) ks σ).2 →
        if (fcW P (fun k => asg.any fun p => p.1 == (k : Int)) ks σ).1 then Q .next m' H' else Q (.ret (.bool false)) m' H') →
      forL (fun H' => sameSrc H0 H' (.ref vl)) (fun y Q' m' H' => bindT ["variable"] y (fun m'' => semSL (CX prog w 1) (bodyFC c) Q' m'') m' H') (semSL (CX prog w 1) .nil) Q (ks.map fun (k : Nat) => AV.int (k : Int)) m H := by
  intro ks
  induction ks with
  | nil =>
    intro m H σ hk k1 k2 D ok q
    simp only [List.map, forL, semSL]
    exact ⟨by simp only [sameSrc, hl, k2 _ _ hl nl, and_self], q m H k1 k2 D⟩
  | cons k r ih =>
    intro m H σ hk k1 k2 D ok q
    rw [List.map_cons, forL]
    refine ⟨by simp only [sameSrc, hl, k2 _ _ hl nl, and_self], ?_⟩
    have t1 := (k1 "assignments" (by decide) (by decide) (by decide)).trans s1
    have t3 := (k1 "domains" (by decide) (by decide) (by decide)).trans s3
    have lk : k < vt.length := hk k (by simp)
    have hr : ∀ j ∈ r, j < vt.length := fun j hj => hk j (by simp [hj])
    obtain ⟨v, hv⟩ : ∃ v, vt[k]? = some v := ⟨_, List.getElem?_eq_getElem lk⟩
    obtain ⟨d1, d2, d3⟩ := dyn_mem hv
    have cm : ∀ {K : Hp}, Chg [v.d, v.h] H K → Chg (dynOf vt) H0 K := fun {K} c => k2.trans (c.mono (by simp; exact ⟨d1, d2⟩))
    cases hh : asg.any fun p => p.1 == (k : Int)
    · have O := ok k lk
      refine stepFC1 (P := P) t1 t3 (k2 _ _ ha na) (k2 _ _ hd ndd) hh hv (D k v hv) O.1 (by have := O.2; unfold big; omega) (fun x m' H' R e1 e2 e3 r => hc x m' H' R e1 (fun y n1 n2 n3 => (e2 y n1 n2 n3).trans (k1 y n1 n2 n3)) (cm e3) r) fun m' H' e1 e2 e3 => ?_
      have f1 : ∀ y, y ≠ "value" → y ≠ "domain" → y ≠ "variable" → m' y = m0 y := fun y n1 n2 n3 => (e1 y n1 n2 n3).trans (k1 y n1 n2 n3)
      have D' := D.one hp hv (e2.mono (by simp)) e3
      simp only [fcW, hh] at q
      cases he : (hideS P (σ k)).vis.isEmpty
      · simp only [he] at q
        refine ih m' H' _ hr f1 (cm e2) D' (fun i hi => ?_) q
        by_cases e : i = k
        · subst e; simp only [Sg.set, if_true]; exact O.hide
        · simp only [Sg.set, if_neg e]; exact ok i hi
      · simp only [he] at q
        exact q m' H' f1 (cm e2) D'
    · refine stepFC0 t1 (k2 _ _ ha na) hh ?_
      simp only [fcW, hh, if_true] at q
      exact ih _ H σ hr (fun y n1 n2 n3 => by rw [← k1 y n1 n2 n3]; simp [upL, n3]) k2 D ok q
end
end Csp

namespace Csp
open PySem PySem.W PySem.Calls PyProof.Rows PySem.SeqAt Builtin Builtin.ObjectAttr

section
variable {prog : Program} {w : World} {n : Nat} {H0 H : Hp}

/-- what MaxSum's call answers, and what the domains are after it -/
def maxR (asg : List (Int × AV)) (mx : Int) (fc : Bool) (ks : List Nat) (σ : Sg) : Bool × Sg :=
  let s := partOf asg (ks.map fun (k : Nat) => (k : Int))
  if s > mx then (false, σ) else if fc then fcW (fun x => decide (s + x > mx)) (fun k => asg.any fun p => p.1 == (k : Int)) ks σ else (true, σ)

theorem cx_407 {c cdx vl a dd : Addr} {mx : Int} {ks : List Nat} {asg : List (Int × AV)} {ep ep2 : Nat} {fc : AV} {fb : Bool} {vt : List Vr} {σ : Sg} {Q : AV → Hp → Prop} (hc : H c = some (.inst 410 cdx)) (hcx : H cdx = some (.ns [("_maxsum", .int mx), ("_multipliers", .none)]))
    (hl : H vl = some (.list (ks.map fun (k : Nat) => AV.int (k : Int)))) (ha : H a = some (.dict asg ep)) (hd : H dd = some (.dict (tab vt) ep2)) (na : a ∉ dynOf vt) (ndd : dd ∉ dynOf vt) (nl : vl ∉ dynOf vt) (hp : vt.Pairwise Apart)
    (hi : ∀ k v, look asg k = some v → ∃ i, v = .int i) (hk : ∀ k ∈ ks, k < vt.length) (D : Doms H vt σ) (ok : ∀ i, i < vt.length → okS (σ i))
    (hf : ∀ (R : Bool → Hp → Prop) (H' : Hp), Chg (dynOf vt) H H' → R fb H' → truthP fc R H')
    (q : ∀ H', Chg (dynOf vt) H H' → Doms H' vt (maxR asg mx fb ks σ).2 → Q (.bool (maxR asg mx fb ks σ).1) H') :
    CX prog w 2 (.ref 407) [.ref c, .ref vl, .ref dd, .ref a, fc] Q H := by
  refine cx_fn (n := 1) (ok407 w) (locOf [("self", .ref c), ("variables", .ref vl), ("domains", .ref dd), ("assignments", .ref a), ("forwardcheck", fc)]) (fun vv e => ?_) ?_
  · obtain ⟨x, y, z, u, v, rfl, e1, e2, e3, e4, e5⟩ := args5 e
    exact ⟨_, bind_407 w x y z u v, by simp only [List.map, e1, e2, e3, e4, e5]⟩
  have l1 : locOf [("self", .ref c), ("variables", .ref vl), ("domains", .ref dd), ("assignments", .ref a), ("forwardcheck", fc)] "self" = some (.ref c) := rfl
  have l2 : locOf [("self", .ref c), ("variables", .ref vl), ("domains", .ref dd), ("assignments", .ref a), ("forwardcheck", fc)] "variables" = some (.ref vl) := rfl
  have l3 : locOf [("self", .ref c), ("variables", .ref vl), ("domains", .ref dd), ("assignments", .ref a), ("forwardcheck", fc)] "assignments" = some (.ref a) := rfl
  have l4 : locOf [("self", .ref c), ("variables", .ref vl), ("domains", .ref dd), ("assignments", .ref a), ("forwardcheck", fc)] "domains" = some (.ref dd) := rfl
  have l5 : locOf [("self", .ref c), ("variables", .ref vl), ("domains", .ref dd), ("assignments", .ref a), ("forwardcheck", fc)] "forwardcheck" = some fc := rfl
  generalize locOf [("self", .ref c), ("variables", .ref vl), ("domains", .ref dd), ("assignments", .ref a), ("forwardcheck", fc)] = m0 at l1 l2 l3 l4 l5 ⊢
  rw [b407, semSL, semS]
  simp [semX, VT.of, l1, e_attr_inst hc hcx, List.lookup, instC, AV.plain]
  rw [semSL, semS]
  simp [semX, VT.of, upL, l1, e_attr_inst hc hcx, List.lookup, instC, AV.plain]
  rw [semSL, semS]
  simp [semX, VT.of]
  rw [semSL, semS]
  simp [semX, VT.of, upL, truthP]
  rw [semSL, semS]
  simp [semX, VT.of, upL, l2, e_items_list hl]
  have lm : (ks.map fun (k : Nat) => AV.int (k : Int)) = (ks.map fun (k : Nat) => (k : Int)).map AV.int := by rw [List.map_map]; rfl
  have hl' := hl
  rw [lm]
  refine loop407a (prog := prog) (w := w) (n := 1) ha hl hi _ _ 0 (by simp [upL, l3]) (by simp [upL]) fun m1 k1 k2 => ?_
  have t0 : m1 "maxsum" = some (.int mx) := (k1 _ (by decide) (by decide)).trans (by simp [upL])
  have t1 : m1 "self" = some (.ref c) := (k1 _ (by decide) (by decide)).trans (by simp [upL, l1])
  have t2 : m1 "variables" = some (.ref vl) := (k1 _ (by decide) (by decide)).trans (by simp [upL, l2])
  have t3 : m1 "assignments" = some (.ref a) := (k1 _ (by decide) (by decide)).trans (by simp [upL, l3])
  have t4 : m1 "domains" = some (.ref dd) := (k1 _ (by decide) (by decide)).trans (by simp [upL, l4])
  have t5 : m1 "forwardcheck" = some fc := (k1 _ (by decide) (by decide)).trans (by simp [upL, l5])
  rw [Int.zero_add] at k2
  dsimp only
  rw [semSL, semS]
  simp only [semX, VT.of, k2, t0, cmpP, truthP]
  by_cases hs : partOf asg (ks.map fun (k : Nat) => (k : Int)) > mx
  · rw [decide_eq_true hs, if_pos rfl]
    simp only [semSL, semS, semX, VT.of]
    simp only [maxR, if_pos hs] at q
    exact q H (Chg.refl _ _) D
  · rw [decide_eq_false hs, if_neg (by simp)]
    simp only [maxR, if_neg hs] at q
    simp only [semSL]
    rw [semS, semS]
    simp only [semX, VT.of, t5]
    refine hf _ H (Chg.refl _ _) ?_
    cases fb
    · rw [if_neg (by simp)]
      simp only [semSL, semS, semX, VT.of]
      exact q H (Chg.refl _ _) D
    · rw [if_pos rfl]
      rw [semSL, semS]
      simp only [semX, VT.of, t2, e_items_list hl]
      refine loopFC (prog := prog) (w := w) (P := fun x => decide (partOf asg (ks.map fun (k : Nat) => (k : Int)) + x > mx)) m1 t3 t4 ha hd hl na ndd nl hp ?_ ks m1 H σ hk (fun _ _ _ _ => rfl) (Chg.refl _ _) D ok ?_
      · intro x m' H' R e1 e2 e3 r
        have u0 := (e2 "sum" (by decide) (by decide) (by decide)).trans k2
        have u1 := (e2 "maxsum" (by decide) (by decide) (by decide)).trans t0
        simp only [semX, VT.of, u0, u1, e1, binP, cmpP, truthP]
        exact r
      · intro m' H' e1 e2 e3
        simp only [if_true] at q
        have := q H' e2 e3
        revert this
        cases (fcW (fun x => decide (partOf asg (List.map (fun (k : Nat) => (k : Int)) ks) + x > mx)) (fun k => asg.any fun p => p.1 == (k : Int)) ks σ).1
        · exact fun h => h
        · intro h
          simp only [if_true, semSL]
          exact h
end
end Csp

namespace Csp
open PySem PySem.W PySem.Calls PyProof.Rows PySem.SeqAt Builtin Builtin.ObjectAttr

section
variable {prog : Program} {w : World} {n : Nat} {H0 H : Hp}

/-! SomeInSetConstraint.__call__ -/
def fd1 : Option AV → Int
  | some (.int v) => if v = 1 then 1 else 0
  | _ => 0
def ms1 : Option AV → Int
  | some _ => 0
  | none => 1
def fndOf (asg : List (Int × AV)) : List Int → Int
  | [] => 0
  | x :: r => fd1 (look asg x) + fndOf asg r
def misOf (asg : List (Int × AV)) : List Int → Int
  | [] => 0
  | x :: r => ms1 (look asg x) + misOf asg r

def bodyA463 : SL := .cons (.ife (.cmp .In (.loc "variable") (.loc "assignments")) (.cons (.aug "found" .Add (.cmp .In (.idx (.loc "assignments") (.loc "variable")) (.attr (.loc "self") "_set"))) .nil) (.cons (.aug "missing" .Add (.lit (.int 1))) .nil)) .nil

theorem step463a {m : Loc} {a c cdx l : Addr} {asg : List (Int × AV)} {ep : Nat} {k fo mi : Int} {Q : Fl → Loc → Hp → Prop} (s0 : m "self" = some (.ref c)) (s1 : m "assignments" = some (.ref a)) (s2 : m "found" = some (.int fo)) (s3 : m "missing" = some (.int mi))
    (hc : H c = some (.inst 466 cdx)) (hcx : H cdx = some (.ns [("_set", .ref l), ("_n", .int 1), ("_exact", .bool false)])) (hl : H l = some (.list [.int 1])) (ha : H a = some (.dict asg ep))
    (hi : ∀ v, look asg k = some v → ∃ i, v = .int i)
    (h : ∀ m', (∀ y, y ≠ "variable" → y ≠ "found" → y ≠ "missing" → m' y = m y) → m' "found" = some (.int (fo + fd1 (look asg k))) → m' "missing" = some (.int (mi + ms1 (look asg k))) → Q .next m' H) :
    bindT ["variable"] (.int k) (fun m'' => semSL (CX prog w n) bodyA463 Q m'') m H := by
  simp only [bodyA463, bindT, semSL, semS, semX, semL, VT.of, List.foldl, upL, if_true]
  simp [s0, s1, s2, s3, cmpP, e_in_dict ha, e_idx_dict ha, -List.any_eq_true, -List.any_eq_false, look_any]
  cases hk : look asg k with
  | none =>
    simp [augP]
    exact h _ (fun y n1 n2 n3 => by simp [n1, n3, upL]) (by simp [upL, s2, hk, fd1]) (by simp [upL, hk, ms1])
  | some v =>
    obtain ⟨i, rfl⟩ := hi v hk
    simp
    rw [e_idx_dict ha, hk]
    simp only []
    rw [e_attr_inst hc hcx]
    simp only [List.lookup, cmpP]
    refine ⟨by decide, rfl, ?_⟩
    rw [e_in_list hl]
    refine ⟨rfl, ?_⟩
    simp only [augP, List.any_cons, List.any_nil, Bool.or_false, AV.num]
    refine h (upL (upL m "variable" (.int k)) "found" _) (fun y n1 n2 n3 => by simp [n1, n2, upL]) ?_ (by simp [upL, s3, hk, ms1])
    simp only [upL, if_true, hk, fd1]
    by_cases e : i = 1
    · subst e; simp
    · have : ¬ 1 = i := fun q => e q.symm
      simp [e, this]

theorem loop463a {a vl c cdx l : Addr} {asg : List (Int × AV)} {ep : Nat} {ys : List AV} {Q : Fl → Loc → Hp → Prop} 
    (hc : H c = some (.inst 466 cdx)) (hcx : H cdx = some (.ns [("_set", .ref l), ("_n", .int 1), ("_exact", .bool false)])) (hl : H l = some (.list [.int 1])) (ha : H a = some (.dict asg ep)) (hv : H vl = some (.list ys)) (hi : ∀ k v, look asg k = some v → ∃ i, v = .int i) :
    ∀ (xs : List Int) (m : Loc) (fo mi : Int), m "self" = some (.ref c) → m "assignments" = some (.ref a) → m "found" = some (.int fo) → m "missing" = some (.int mi) →
      (∀ m', (∀ y, y ≠ "variable" → y ≠ "found" → y ≠ "missing" → m' y = m y) → m' "found" = some (.int (fo + fndOf asg xs)) → m' "missing" = some (.int (mi + misOf asg xs)) → Q .next m' H) →
      forL (fun H' => sameSrc H H' (.ref vl)) (fun y Q' m' H' => bindT ["variable"] y (fun m'' => semSL (CX prog w n) bodyA463 Q' m'') m' H') (semSL (CX prog w n) .nil) Q (xs.map .int) m H := by
  intro xs
  induction xs with
  | nil =>
    intro m fo mi s0 s1 s2 s3 h
    simp only [List.map, forL, semSL]
    exact ⟨by simp only [sameSrc, hv, and_self], h m (fun _ _ _ _ => rfl) (by simpa [fndOf] using s2) (by simpa [misOf] using s3)⟩
  | cons x r ih =>
    intro m fo mi s0 s1 s2 s3 h
    rw [List.map_cons, forL]
    refine ⟨by simp only [sameSrc, hv, and_self], step463a s0 s1 s2 s3 hc hcx hl ha (hi x) fun m' k1 k2 k3 => ?_⟩
    refine ih m' _ _ ((k1 _ (by decide) (by decide) (by decide)).trans s0) ((k1 _ (by decide) (by decide) (by decide)).trans s1) k2 k3 fun m'' l1 l2 l3 => h m'' (fun y n1 n2 n3 => (l1 y n1 n2 n3).trans (k1 y n1 n2 n3)) (by rw [l2, fndOf, Int.add_assoc]) (by rw [l3, misOf, Int.add_assoc])

/-- what SomeInSet's call answers -/
def someR (asg : List (Int × AV)) (fc : Bool) (ks : List Nat) (σ : Sg) : Bool × Sg :=
  let xs := ks.map fun (k : Nat) => (k : Int)
  if misOf asg xs ≠ 0 then
    if 1 > misOf asg xs + fndOf asg xs then (false, σ)
    else if fc ∧ 1 - fndOf asg xs = misOf asg xs then fcW (fun x => !(x == 1)) (fun k => asg.any fun p => p.1 == (k : Int)) ks σ else (true, σ)
  else if fndOf asg xs < 1 then (false, σ) else (true, σ)

theorem cx_463 {c cdx vl a dd l : Addr} {ks : List Nat} {asg : List (Int × AV)} {ep ep2 : Nat} {fc : AV} {fb : Bool} {vt : List Vr} {σ : Sg} {Q : AV → Hp → Prop} (hc : H c = some (.inst 466 cdx)) (hcx : H cdx = some (.ns [("_set", .ref l), ("_n", .int 1), ("_exact", .bool false)])) (hsl : H l = some (.list [.int 1])) (nsl : l ∉ dynOf vt) (nc : c ∉ dynOf vt) (ncx : cdx ∉ dynOf vt)
    (hl : H vl = some (.list (ks.map fun (k : Nat) => AV.int (k : Int)))) (ha : H a = some (.dict asg ep)) (hd : H dd = some (.dict (tab vt) ep2)) (na : a ∉ dynOf vt) (ndd : dd ∉ dynOf vt) (nl : vl ∉ dynOf vt) (hp : vt.Pairwise Apart)
    (hi : ∀ k v, look asg k = some v → ∃ i, v = .int i) (hk : ∀ k ∈ ks, k < vt.length) (D : Doms H vt σ) (ok : ∀ i, i < vt.length → okS (σ i))
    (hf : ∀ (R : Bool → Hp → Prop) (H' : Hp), Chg (dynOf vt) H H' → R fb H' → truthP fc R H')
    (q : ∀ H', Chg (dynOf vt) H H' → Doms H' vt (someR asg fb ks σ).2 → Q (.bool (someR asg fb ks σ).1) H') :
    CX prog w 2 (.ref 463) [.ref c, .ref vl, .ref dd, .ref a, fc] Q H := by
  refine cx_fn (n := 1) (ok463 w) (locOf [("self", .ref c), ("variables", .ref vl), ("domains", .ref dd), ("assignments", .ref a), ("forwardcheck", fc)]) (fun vv e => ?_) ?_
  · obtain ⟨x, y, z, u, v, rfl, e1, e2, e3, e4, e5⟩ := args5 e
    exact ⟨_, bind_463 w x y z u v, by simp only [List.map, e1, e2, e3, e4, e5]⟩
  have l1 : locOf [("self", .ref c), ("variables", .ref vl), ("domains", .ref dd), ("assignments", .ref a), ("forwardcheck", fc)] "self" = some (.ref c) := rfl
  have l2 : locOf [("self", .ref c), ("variables", .ref vl), ("domains", .ref dd), ("assignments", .ref a), ("forwardcheck", fc)] "variables" = some (.ref vl) := rfl
  have l3 : locOf [("self", .ref c), ("variables", .ref vl), ("domains", .ref dd), ("assignments", .ref a), ("forwardcheck", fc)] "assignments" = some (.ref a) := rfl
  have l4 : locOf [("self", .ref c), ("variables", .ref vl), ("domains", .ref dd), ("assignments", .ref a), ("forwardcheck", fc)] "domains" = some (.ref dd) := rfl
  have l5 : locOf [("self", .ref c), ("variables", .ref vl), ("domains", .ref dd), ("assignments", .ref a), ("forwardcheck", fc)] "forwardcheck" = some fc := rfl
  generalize locOf [("self", .ref c), ("variables", .ref vl), ("domains", .ref dd), ("assignments", .ref a), ("forwardcheck", fc)] = m0 at l1 l2 l3 l4 l5 ⊢
  rw [b463, semSL, semS]
  simp [semX, VT.of]
  rw [semSL, semS]
  simp [semX, VT.of]
  rw [semSL, semS]
  simp [semX, VT.of, upL, l2, e_items_list hl]
  have lm : (ks.map fun (k : Nat) => AV.int (k : Int)) = (ks.map fun (k : Nat) => (k : Int)).map AV.int := by rw [List.map_map]; rfl
  have hl' := hl
  rw [lm]
  refine loop463a (prog := prog) (w := w) (n := 1) hc hcx hsl ha hl hi _ _ 0 0 (by simp [upL, l1]) (by simp [upL, l3]) (by simp [upL]) (by simp [upL]) fun m1 k1 k2 k3 => ?_
  have t1 : m1 "self" = some (.ref c) := (k1 _ (by decide) (by decide) (by decide)).trans (by simp [upL, l1])
  have t2 : m1 "variables" = some (.ref vl) := (k1 _ (by decide) (by decide) (by decide)).trans (by simp [upL, l2])
  have t3 : m1 "assignments" = some (.ref a) := (k1 _ (by decide) (by decide) (by decide)).trans (by simp [upL, l3])
  have t4 : m1 "domains" = some (.ref dd) := (k1 _ (by decide) (by decide) (by decide)).trans (by simp [upL, l4])
  have t5 : m1 "forwardcheck" = some fc := (k1 _ (by decide) (by decide) (by decide)).trans (by simp [upL, l5])
  rw [Int.zero_add] at k2 k3
  dsimp only
  simp only [someR] at q
  generalize misOf asg (ks.map fun (k : Nat) => (k : Int)) = mi at k3 q
  generalize fndOf asg (ks.map fun (k : Nat) => (k : Int)) = fo at k2 q
  rw [semSL, semS]
  simp only [semX, VT.of, k3, e_truth_int]
  by_cases hm : mi = 0
  · subst hm
    rw [if_neg (by simp)] at q
    simp only [bne_self_eq_false, Bool.false_eq_true, if_false]
    rw [semSL, semS]
    simp only [semX, VT.of, t1, e_attr_inst hc hcx, List.lookup]
    refine ⟨by decide, rfl, ?_⟩
    simp only [truthP, Bool.false_eq_true, if_false]
    simp only [semSL, semS, semX, VT.of, t1, k2, e_attr_inst hc hcx, List.lookup]
    refine ⟨by decide, rfl, ?_⟩
    simp only [cmpP, truthP]
    by_cases h1 : fo < 1
    · simp only [h1, decide_true, if_true] at q ⊢
      exact q H (Chg.refl _ _) D
    · simp only [h1, decide_false, if_false] at q ⊢
      exact q H (Chg.refl _ _) D
  · rw [if_pos hm] at q
    have hb : (mi != 0) = true := by simpa using hm
    simp only [hb, if_true]
    rw [semSL, semS]
    simp only [semX, VT.of, t1, e_attr_inst hc hcx, List.lookup]
    refine ⟨by decide, rfl, ?_⟩
    simp only [truthP, Bool.false_eq_true, if_false]
    rw [semSL, semS]
    simp only [semX, VT.of, t1, k2, k3, e_attr_inst hc hcx, List.lookup, binP]
    refine ⟨by decide, rfl, ?_⟩
    simp only [cmpP, truthP]
    by_cases h1 : 1 > mi + fo
    · simp only [h1, decide_true, if_true] at q ⊢
      simp only [semSL, semS, semX, VT.of]
      exact q H (Chg.refl _ _) D
    · simp only [h1, decide_false, if_false] at q ⊢
      rw [if_neg (by simp)]
      simp only [semSL]
      rw [semS, semS]
      simp only [semX, VT.of, t5]
      refine hf _ H (Chg.refl _ _) ?_
      cases fb
      · simp only [Bool.false_eq_true, false_and, if_false] at q ⊢
        simp only [semSL, semS, semX, VT.of]
        exact q H (Chg.refl _ _) D
      · simp only [true_and, if_true] at q ⊢
        simp only [t1, k2, k3, e_attr_inst hc hcx, List.lookup, binP]
        refine ⟨by decide, rfl, ?_⟩
        simp only [cmpP, eqP]
        by_cases h2 : 1 - fo = mi
        · simp only [h2, beq_self_eq_true, if_true] at q ⊢
          rw [semSL, semS]
          simp only [semX, VT.of, t2, e_items_list hl]
          refine loopFC (prog := prog) (w := w) (P := fun x => !(x == 1)) m1 t3 t4 ha hd hl na ndd nl hp ?_ ks m1 H σ hk (fun _ _ _ _ => rfl) (Chg.refl _ _) D ok ?_
          · intro x m' H' R e1 e2 e3 r
            have u1 := (e2 "self" (by decide) (by decide) (by decide)).trans t1
            have g1 := e3 _ _ hc nc
            have g2 := e3 _ _ hcx ncx
            have g3 := e3 _ _ hsl nsl
            simp only [semX, VT.of, u1, e1, e_attr_inst g1 g2, List.lookup]
            refine ⟨by decide, rfl, ?_⟩
            simp only [cmpP, e_in_list g3]
            refine ⟨rfl, ?_⟩
            have : (List.any [AV.int 1] fun y => y.num == x) = (x == 1) := by
              simp only [List.any_cons, List.any_nil, Bool.or_false, AV.num]
              exact Bool.beq_comm
            rw [this]
            exact r
          · intro m' H' e1 e2 e3
            have := q H' e2 e3
            revert this
            cases (fcW (fun x => !(x == 1)) (fun k => asg.any fun p => p.1 == (k : Int)) ks σ).1
            · exact fun h => h
            · intro h
              simp only [if_true, semSL]
              exact h
        · have hb2 : (1 - fo == mi) = false := by simpa using h2
          simp only [h2, hb2, if_false] at q ⊢
          rw [if_neg (by simp)]
          simp only [semSL, semS, semX, VT.of]
          exact q H (Chg.refl _ _) D
end
end Csp

namespace Csp

/-! what the constraints' calls do to the search, in plain words -/
abbrev As := List (Int × AV)
inductive Con where
  | mx (i : Int) (ks : List Nat) | mn (i : Int) (ks : List Nat) | sm (ks : List Nat)
def Con.ks : Con → List Nat
  | .mx _ ks => ks
  | .mn _ ks => ks
  | .sm ks => ks
def Con.sat : Con → (Nat → Int) → Prop
  | .mx i ks, f => (ks.map f).sum ≤ i
  | .mn i ks, f => i ≤ (ks.map f).sum
  | .sm ks, f => ∃ k ∈ ks, f k = 1
def toI (ks : List Nat) : List Int := ks.map fun (k : Nat) => (k : Int)
def conR : Con → As → Bool → Sg → Bool × Sg
  | .mx i ks, asg, fc, σ => maxR asg i fc ks σ
  | .mn i ks, asg, _, σ => (if (toI ks).all (fun k => asg.any fun p => p.1 == k) then (match sumOf asg (toI ks) with | some t => decide (t ≥ i) | none => false) else true, σ)
  | .sm ks, asg, fc, σ => someR asg fc ks σ

/-- f holds what is assigned -/
def Ext (asg : As) (f : Nat → Int) : Prop := ∀ (k : Nat) v, look asg (k : Int) = some v → v = .int (f k)
def Bin (f : Nat → Int) : Prop := ∀ k, f k = 0 ∨ f k = 1
def In (σ : Sg) (asg : As) (n : Nat) (f : Nat → Int) : Prop := ∀ k, k < n → look asg (k : Int) = none → f k ∈ (σ k).vis

theorem any_none {asg : As} {k : Nat} : (asg.any fun p => p.1 == (k : Int)) = false ↔ look asg (k : Int) = none := by
  rw [look_any]; cases look asg (k : Int) <;> simp
theorem any_some {asg : As} {k : Nat} : (asg.any fun p => p.1 == (k : Int)) = true ↔ look asg (k : Int) ≠ none := by
  rw [look_any]; cases look asg (k : Int) <;> simp

theorem mem_hideS {P : Int → Bool} {s : DS} {x : Int} (h : x ∈ s.vis) (hp : P x = false) : x ∈ (hideS P s).vis := by
  simp [hideS, h, hp]

theorem fcW_keep {P : Int → Bool} {asg : As} {n : Nat} {f : Nat → Int} : ∀ (ks : List Nat) (σ : Sg), (∀ k ∈ ks, k < n ∧ (look asg (k : Int) = none → P (f k) = false)) → In σ asg n f →
    (fcW P (fun k => asg.any fun p => p.1 == (k : Int)) ks σ).1 = true ∧ In (fcW P (fun k => asg.any fun p => p.1 == (k : Int)) ks σ).2 asg n f
  | [], σ, _, hin => ⟨rfl, hin⟩
  | k :: r, σ, hk, hin => by
    simp only [fcW]
    by_cases h : (asg.any fun p => p.1 == (k : Int)) = true
    rotate_left
    · have hn := any_none.mp (Bool.eq_false_iff.mpr h)
      rw [if_neg h]
      obtain ⟨h1, h2⟩ := hk k (by simp)
      have hm := mem_hideS (hin k h1 hn) (h2 hn)
      have hin' : In (σ.set k (hideS P (σ k))) asg n f := fun j hj hjn => by
        unfold Sg.set
        by_cases e : j = k
        · subst e; rw [if_pos rfl]; exact hm
        · rw [if_neg e]; exact hin j hj hjn
      have he : (hideS P (σ k)).vis.isEmpty = false := by
        cases hv : (hideS P (σ k)).vis with
        | nil => rw [hv] at hm; simp at hm
        | cons _ _ => rfl
      simp only [he, Bool.false_eq_true, if_false]
      exact fcW_keep r _ (fun j hj => hk j (by simp [hj])) hin'
    · rw [if_pos h]
      exact fcW_keep r σ (fun j hj => hk j (by simp [hj])) hin

theorem part_le {asg : As} {f : Nat → Int} (hb : Bin f) (he : Ext asg f) : ∀ (ks : List Nat), partOf asg (toI ks) ≤ (ks.map f).sum ∧ ∀ k ∈ ks, look asg (k : Int) = none → partOf asg (toI ks) + f k ≤ (ks.map f).sum
  | [] => by simp [partOf, toI]
  | j :: r => by
    obtain ⟨i1, i2⟩ := part_le hb he r
    have hj : partOf asg (toI (j :: r)) = (match look asg (j : Int) with | some (.int v) => v | _ => 0) + partOf asg (toI r) := rfl
    rw [hj, List.map_cons, List.sum_cons]
    cases h : look asg (j : Int) with
    | none =>
      have := hb j
      refine ⟨?_, fun k hk hn => ?_⟩
      · simp only []; omega
      · rcases List.mem_cons.mp hk with rfl | hk
        · simp only []; omega
        · have := i2 k hk hn
          simp only []; omega
    | some v =>
      obtain rfl := he j v h
      refine ⟨?_, fun k hk hn => ?_⟩
      · simp only []; omega
      · rcases List.mem_cons.mp hk with rfl | hk
        · rw [h] at hn; cases hn
        · have := i2 k hk hn
          simp only []; omega

theorem part_all {asg : As} {f : Nat → Int} (he : Ext asg f) : ∀ (ks : List Nat), (∀ k ∈ ks, look asg (k : Int) ≠ none) → partOf asg (toI ks) = (ks.map f).sum ∧ sumOf asg (toI ks) = some (ks.map f).sum ∧ misOf asg (toI ks) = 0
  | [], _ => ⟨rfl, rfl, rfl⟩
  | j :: r, hk => by
    obtain ⟨i1, i2, i3⟩ := part_all he r fun k m => hk k (by simp [m])
    cases h : look asg (j : Int) with
    | none => exact absurd h (hk j (by simp))
    | some v =>
      obtain rfl := he j v h
      have e1 : partOf asg (toI (j :: r)) = (match look asg (j : Int) with | some (.int v) => v | _ => 0) + partOf asg (toI r) := rfl
      have e2 : sumOf asg (toI (j :: r)) = (match look asg (j : Int), sumOf asg (toI r) with
        | some (.int v), some s => some (v + s)
        | _, _ => none) := rfl
      have e3 : misOf asg (toI (j :: r)) = ms1 (look asg (j : Int)) + misOf asg (toI r) := rfl
      rw [e1, e2, e3, i1, i2, i3, h]
      exact ⟨rfl, rfl, rfl⟩

theorem mis_spec {asg : As} : ∀ (ks : List Nat), 0 ≤ misOf asg (toI ks) ∧ (misOf asg (toI ks) = 0 → ∀ k ∈ ks, look asg (k : Int) ≠ none) ∧ (∀ k ∈ ks, look asg (k : Int) = none → 1 ≤ misOf asg (toI ks)) ∧
    (∀ k ∈ ks, ∀ j ∈ ks, look asg (k : Int) = none → look asg (j : Int) = none → k ≠ j → 2 ≤ misOf asg (toI ks))
  | [] => by simp [misOf, toI]
  | x :: r => by
    obtain ⟨i0, i1, i2, i3⟩ := mis_spec (asg := asg) r
    have e3 : misOf asg (toI (x :: r)) = ms1 (look asg (x : Int)) + misOf asg (toI r) := rfl
    rw [e3]
    cases h : look asg (x : Int) with
    | none =>
      simp only [ms1]
      refine ⟨by omega, fun e => by omega, fun _ _ _ => by omega, fun k hk j hj h1 h2 hne => ?_⟩
      rcases List.mem_cons.mp hk with rfl | hk
      · rcases List.mem_cons.mp hj with rfl | hj
        · exact absurd rfl hne
        · have := i2 j hj h2; omega
      · have := i2 k hk h1; omega
    | some v =>
      simp only [ms1, Int.zero_add]
      refine ⟨i0, fun e k hk => ?_, fun k hk hn => ?_, fun k hk j hj h1 h2 hne => ?_⟩
      · rcases List.mem_cons.mp hk with rfl | hk
        · rw [h]; simp
        · exact i1 e k hk
      · rcases List.mem_cons.mp hk with rfl | hk
        · rw [h] at hn; cases hn
        · exact i2 k hk hn
      · rcases List.mem_cons.mp hk with rfl | hk
        · rw [h] at h1; cases h1
        · rcases List.mem_cons.mp hj with rfl | hj
          · rw [h] at h2; cases h2
          · exact i3 k hk j hj h1 h2 hne

theorem fnd_spec {asg : As} {f : Nat → Int} (he : Ext asg f) : ∀ (ks : List Nat), 0 ≤ fndOf asg (toI ks) ∧ (∀ k ∈ ks, look asg (k : Int) ≠ none → f k = 1 → 1 ≤ fndOf asg (toI ks)) ∧ (1 ≤ fndOf asg (toI ks) → ∃ k ∈ ks, f k = 1)
  | [] => by simp [fndOf, toI]
  | x :: r => by
    obtain ⟨i0, i1, i2⟩ := fnd_spec he r
    have e3 : fndOf asg (toI (x :: r)) = fd1 (look asg (x : Int)) + fndOf asg (toI r) := rfl
    rw [e3]
    cases h : look asg (x : Int) with
    | none =>
      simp only [fd1, Int.zero_add]
      refine ⟨i0, fun k hk hn h1 => ?_, fun e => ?_⟩
      · rcases List.mem_cons.mp hk with rfl | hk
        · exact absurd h hn
        · exact i1 k hk hn h1
      · obtain ⟨k, a, b⟩ := i2 e
        exact ⟨k, by simp [a], b⟩
    | some v =>
      obtain rfl := he x v h
      simp only [fd1]
      by_cases h1 : f x = 1
      · rw [if_pos h1]
        exact ⟨by omega, fun _ _ _ _ => by omega, fun _ => ⟨x, by simp, h1⟩⟩
      · rw [if_neg h1]
        simp only [Int.zero_add]
        refine ⟨i0, fun k hk hn h2 => ?_, fun e => ?_⟩
        · rcases List.mem_cons.mp hk with rfl | hk
          · exact absurd h2 h1
          · exact i1 k hk hn h2
        · obtain ⟨k, a, b⟩ := i2 e
          exact ⟨k, by simp [a], b⟩

theorem all_toI {asg : As} (ks : List Nat) : ((toI ks).all (fun k => asg.any fun p => p.1 == k)) = true ↔ ∀ k ∈ ks, look asg (k : Int) ≠ none := by
  unfold toI
  rw [List.all_map, List.all_eq_true]
  exact ⟨fun h k m => any_some.mp (h k m), fun h k m => any_some.mpr (h k m)⟩

/-- no solution is lost -/
theorem con_keep (c : Con) {asg : As} {fc : Bool} {σ : Sg} {n : Nat} {f : Nat → Int} (hb : Bin f) (he : Ext asg f) (hk : ∀ k ∈ c.ks, k < n) (hin : In σ asg n f) (hs : c.sat f) :
    (conR c asg fc σ).1 = true ∧ In (conR c asg fc σ).2 asg n f := by
  cases c with
  | mx i ks =>
    obtain ⟨p1, p2⟩ := part_le hb he ks
    simp only [Con.sat] at hs
    simp only [conR, maxR]
    have hx : ¬ partOf asg (List.map (fun (k : Nat) => (k : Int)) ks) > i := by show ¬ partOf asg (toI ks) > i; omega
    rw [if_neg hx]
    cases fc
    · exact ⟨rfl, hin⟩
    · refine fcW_keep ks σ (fun k m => ⟨hk k m, fun hn => ?_⟩) hin
      have := p2 k m hn
      have h2 : ¬ partOf asg (List.map (fun (k : Nat) => (k : Int)) ks) + f k > i := by show ¬ partOf asg (toI ks) + f k > i; omega
      simpa using h2
  | mn i ks =>
    simp only [Con.sat] at hs
    simp only [conR]
    refine ⟨?_, hin⟩
    by_cases h : (toI ks).all (fun k => asg.any fun p => p.1 == k) = true
    · rw [if_pos h]
      obtain ⟨_, e, _⟩ := part_all he ks ((all_toI ks).mp h)
      rw [e]
      simpa using hs
    · rw [if_neg h]
  | sm ks =>
    obtain ⟨k1, hk1, hf1⟩ := hs
    obtain ⟨m0, m1, m2, m3⟩ := mis_spec (asg := asg) ks
    obtain ⟨f0, f1, f2⟩ := fnd_spec he ks
    simp only [conR, someR]
    change (if misOf asg (toI ks) ≠ 0 then (if 1 > misOf asg (toI ks) + fndOf asg (toI ks) then (false, σ) else if fc = true ∧ 1 - fndOf asg (toI ks) = misOf asg (toI ks) then fcW (fun x => !(x == 1)) (fun k => asg.any fun p => p.1 == (k : Int)) ks σ else (true, σ)) else if fndOf asg (toI ks) < 1 then (false, σ) else (true, σ)).1 = true ∧ In (if misOf asg (toI ks) ≠ 0 then (if 1 > misOf asg (toI ks) + fndOf asg (toI ks) then (false, σ) else if fc = true ∧ 1 - fndOf asg (toI ks) = misOf asg (toI ks) then fcW (fun x => !(x == 1)) (fun k => asg.any fun p => p.1 == (k : Int)) ks σ else (true, σ)) else if fndOf asg (toI ks) < 1 then (false, σ) else (true, σ)).2 asg n f
    by_cases h0 : misOf asg (toI ks) = 0
    · rw [if_neg (by simpa using h0)]
      have := f1 k1 hk1 (m1 h0 k1 hk1) hf1
      rw [if_neg (by omega)]
      exact ⟨rfl, hin⟩
    · rw [if_pos h0, if_neg (by omega)]
      by_cases h1 : fc = true ∧ 1 - fndOf asg (toI ks) = misOf asg (toI ks)
      · rw [if_pos h1]
        have hz : fndOf asg (toI ks) = 0 := by omega
        have hn1 : look asg (k1 : Int) = none := by
          cases e : look asg (k1 : Int) with
          | none => rfl
          | some v => have := f1 k1 hk1 (by rw [e]; simp) hf1; omega
        refine fcW_keep ks σ (fun k m => ⟨hk k m, fun hn => ?_⟩) hin
        have : k = k1 := by
          by_cases e : k = k1
          · exact e
          · have := m3 k m k1 hk1 hn hn1 e; omega
        subst this
        simp [hf1]
      · rw [if_neg h1]
        exact ⟨rfl, hin⟩

/-- a constraint whose variables are all assigned is decided -/
theorem con_done (c : Con) {asg : As} {fc : Bool} {σ : Sg} {f : Nat → Int} (he : Ext asg f) (ha : ∀ k ∈ c.ks, look asg (k : Int) ≠ none) (h : (conR c asg fc σ).1 = true) : c.sat f := by
  cases c with
  | mx i ks =>
    obtain ⟨e1, _, _⟩ := part_all he ks ha
    simp only [conR, maxR] at h
    show (ks.map f).sum ≤ i
    by_cases hx : partOf asg (List.map (fun (k : Nat) => (k : Int)) ks) > i
    · rw [if_pos hx] at h; cases h
    · have : partOf asg (toI ks) = partOf asg (List.map (fun (k : Nat) => (k : Int)) ks) := rfl
      omega
  | mn i ks =>
    obtain ⟨_, e, _⟩ := part_all he ks ha
    simp only [conR] at h
    rw [if_pos ((all_toI ks).mpr ha), e] at h
    show i ≤ (ks.map f).sum
    simpa using h
  | sm ks =>
    obtain ⟨_, _, e⟩ := part_all he ks ha
    obtain ⟨f0, f1, f2⟩ := fnd_spec he ks
    simp only [conR, someR] at h
    change (if misOf asg (toI ks) ≠ 0 then (if 1 > misOf asg (toI ks) + fndOf asg (toI ks) then (false, σ) else if fc = true ∧ 1 - fndOf asg (toI ks) = misOf asg (toI ks) then fcW (fun x => !(x == 1)) (fun k => asg.any fun p => p.1 == (k : Int)) ks σ else (true, σ)) else if fndOf asg (toI ks) < 1 then (false, σ) else (true, σ)).1 = true at h
    rw [if_neg (by simpa using e)] at h
    by_cases hx : fndOf asg (toI ks) < 1
    · rw [if_pos hx] at h; cases h
    · exact f2 (by omega)
end Csp

namespace Csp

/-! how domains change -/
def Hid (s s' : DS) : Prop := ∃ t, s'.hid = s.hid ++ t ∧ (s'.vis ++ t).Perm s.vis ∧ s'.sts = s.sts
theorem Hid.refl (s : DS) : Hid s s := ⟨[], by simp, by simp, rfl⟩
theorem Hid.trans {a b c : DS} (h : Hid a b) (k : Hid b c) : Hid a c := by
  obtain ⟨t, h1, h2, h3⟩ := h
  obtain ⟨u, k1, k2, k3⟩ := k
  refine ⟨t ++ u, by rw [k1, h1, List.append_assoc], ?_, by rw [k3, h3]⟩
  have : (c.vis ++ (t ++ u)).Perm (c.vis ++ u ++ t) := by
    rw [List.append_assoc]
    exact List.Perm.append_left _ List.perm_append_comm
  exact this.trans ((k2.append_right t).trans h2)
theorem filter_split (P : Int → Bool) : ∀ l : List Int, ((l.filter fun x => !P x) ++ l.filter P).Perm l
  | [] => by simp
  | a :: r => by
    have ih := filter_split P r
    cases h : P a
    · simp only [List.filter_cons, h, Bool.not_false, if_true, Bool.false_eq_true, if_false, List.cons_append]
      exact ih.cons a
    · simp only [List.filter_cons, h, Bool.not_true, if_true, Bool.false_eq_true, if_false]
      exact List.perm_middle.trans (ih.cons a)
theorem hid_hideS (P : Int → Bool) (s : DS) : Hid s (hideS P s) := ⟨s.vis.filter P, rfl, filter_split P _, rfl⟩
theorem Hid.sub {s s' : DS} (h : Hid s s') {x : Int} (m : x ∈ s'.vis) : x ∈ s.vis := by
  obtain ⟨t, _, p, _⟩ := h
  exact p.subset (List.mem_append_left _ m)
theorem Hid.okS {s s' : DS} (h : Hid s s') (o : okS s) : Csp.okS s' := by
  obtain ⟨t, h1, p, _⟩ := h
  refine ⟨(List.nodup_append.mp (p.nodup_iff.mpr o.1)).1, ?_⟩
  have := p.length_eq
  have := o.2
  rw [h1]
  simp only [List.length_append] at *
  omega

theorem fcW_hid {P : Int → Bool} {α : Nat → Bool} : ∀ (ks : List Nat) (σ : Sg) (k : Nat), Hid (σ k) ((fcW P α ks σ).2 k) ∧ (α k = true → (fcW P α ks σ).2 k = σ k) ∧ ((fcW P α ks σ).1 = true → α k = false → (σ k).vis ≠ [] → ((fcW P α ks σ).2 k).vis ≠ [])
  | [], σ, k => ⟨Hid.refl _, fun _ => rfl, fun _ _ h => h⟩
  | j :: r, σ, k => by
    have one : Hid (σ k) (σ.set j (hideS P (σ j)) k) := by
      unfold Sg.set
      by_cases e : k = j
      · subst e; rw [if_pos rfl]; exact hid_hideS P _
      · rw [if_neg e]; exact Hid.refl _
    simp only [fcW]
    by_cases h : α j = true
    · rw [if_pos h]; exact fcW_hid r σ k
    · rw [if_neg h]
      have ne : α k = true → σ.set j (hideS P (σ j)) k = σ k := fun hk => by
        unfold Sg.set
        rw [if_neg (by rintro rfl; exact h hk)]
      by_cases he : (hideS P (σ j)).vis.isEmpty = true
      · rw [if_pos he]
        exact ⟨one, ne, fun e => by cases e⟩
      · rw [if_neg he]
        obtain ⟨i1, i2, i3⟩ := fcW_hid (P := P) (α := α) r (σ.set j (hideS P (σ j))) k
        refine ⟨one.trans i1, fun hk => (i2 hk).trans (ne hk), fun e1 e2 e3 => i3 e1 e2 ?_⟩
        unfold Sg.set
        by_cases e : k = j
        · subst e
          rw [if_pos rfl]
          intro e4; rw [e4] at he; exact he rfl
        · rw [if_neg e]; exact e3

theorem con_hid (c : Con) (asg : As) (fc : Bool) (σ : Sg) (k : Nat) : Hid (σ k) ((conR c asg fc σ).2 k) ∧ (look asg (k : Int) ≠ none → (conR c asg fc σ).2 k = σ k) ∧ (fc = false → (conR c asg fc σ).2 k = σ k) ∧ ((conR c asg fc σ).1 = true → look asg (k : Int) = none → (σ k).vis ≠ [] → ((conR c asg fc σ).2 k).vis ≠ []) := by
  have tr : ∀ b : Bool, Hid (σ k) ((b, σ).2 k) ∧ (look asg (k : Int) ≠ none → (b, σ).2 k = σ k) ∧ (fc = false → (b, σ).2 k = σ k) ∧ ((b, σ).1 = true → look asg (k : Int) = none → (σ k).vis ≠ [] → ((b, σ).2 k).vis ≠ []) := fun b => ⟨Hid.refl _, fun _ => rfl, fun _ => rfl, fun _ _ h => h⟩
  cases c with
  | mx i ks =>
    simp only [conR, maxR]
    split
    · exact tr _
    · cases fc
      · exact tr _
      · obtain ⟨a, b, c⟩ := fcW_hid (P := fun x => decide (partOf asg (ks.map fun (k : Nat) => (k : Int)) + x > i)) (α := fun k => asg.any fun p => p.1 == (k : Int)) ks σ k
        exact ⟨a, fun h => b (any_some.mpr h), (by intro e; cases e), fun h1 h2 => c h1 (any_none.mpr h2)⟩
  | mn i ks => exact tr _
  | sm ks =>
    simp only [conR, someR]
    split
    · split
      · exact tr _
      · split
        · rename_i hfc
          obtain ⟨a, b, c⟩ := fcW_hid (P := fun x => !(x == 1)) (α := fun k => asg.any fun p => p.1 == (k : Int)) ks σ k
          exact ⟨a, fun h => b (any_some.mpr h), (by intro e; rw [e] at hfc; cases hfc.1), fun h1 h2 => c h1 (any_none.mpr h2)⟩
        · exact tr _
    · split
      · exact tr _
      · exact tr _

/-- the constraints one after another -/
def conAll : List Con → As → Bool → Sg → Bool × Sg
  | [], _, _, σ => (true, σ)
  | c :: r, asg, fc, σ => if (conR c asg fc σ).1 then conAll r asg fc (conR c asg fc σ).2 else (false, (conR c asg fc σ).2)

theorem all_keep {asg : As} {fc : Bool} {n : Nat} {f : Nat → Int} (hb : Bin f) (he : Ext asg f) : ∀ (cs : List Con) (σ : Sg), (∀ c ∈ cs, (∀ k ∈ c.ks, k < n) ∧ c.sat f) → In σ asg n f → (conAll cs asg fc σ).1 = true ∧ In (conAll cs asg fc σ).2 asg n f
  | [], σ, _, h => ⟨rfl, h⟩
  | c :: r, σ, hc, h => by
    obtain ⟨h1, h2⟩ := con_keep c (fc := fc) hb he (hc c (by simp)).1 h (hc c (by simp)).2
    simp only [conAll, h1, if_true]
    exact all_keep hb he r _ (fun c m => hc c (by simp [m])) h2

theorem all_hid (asg : As) (fc : Bool) : ∀ (cs : List Con) (σ : Sg) (k : Nat), Hid (σ k) ((conAll cs asg fc σ).2 k) ∧ (look asg (k : Int) ≠ none → (conAll cs asg fc σ).2 k = σ k) ∧ (fc = false → (conAll cs asg fc σ).2 k = σ k) ∧ ((conAll cs asg fc σ).1 = true → look asg (k : Int) = none → (σ k).vis ≠ [] → ((conAll cs asg fc σ).2 k).vis ≠ [])
  | [], σ, k => ⟨Hid.refl _, fun _ => rfl, fun _ => rfl, fun _ _ h => h⟩
  | c :: r, σ, k => by
    obtain ⟨h1, h2, h3, h4⟩ := con_hid c asg fc σ k
    simp only [conAll]
    by_cases e : (conR c asg fc σ).1 = true
    · rw [if_pos e]
      obtain ⟨i1, i2, i3, i4⟩ := all_hid asg fc r (conR c asg fc σ).2 k
      exact ⟨h1.trans i1, fun h => (i2 h).trans (h2 h), fun h => (i3 h).trans (h3 h), fun a b d => i4 a b (h4 e b d)⟩
    · rw [if_neg e]
      exact ⟨h1, h2, h3, fun e => by cases e⟩

theorem all_done {asg : As} {fc : Bool} {f : Nat → Int} (he : Ext asg f) : ∀ (cs : List Con) (σ : Sg), (conAll cs asg fc σ).1 = true → ∀ c ∈ cs, (∀ k ∈ c.ks, look asg (k : Int) ≠ none) → c.sat f
  | [], σ, _ => by simp
  | c :: r, σ, h => by
    simp only [conAll] at h
    by_cases e : (conR c asg fc σ).1 = true
    · rw [if_pos e] at h
      intro d hd ha
      rcases List.mem_cons.mp hd with rfl | hd
      · exact con_done _ he ha e
      · exact all_done he r _ h d hd ha
    · rw [if_neg e] at h; cases h

/-! push and pop -/
def pushS (s : DS) : DS := ⟨s.vis, s.hid, s.sts ++ [(s.vis.length : Int)]⟩
def Abv (s0 s : DS) : Prop := ∃ t, s.hid = s0.hid ++ t ∧ (s.vis ++ t).Perm s0.vis ∧ s.sts = s0.sts ++ [(s0.vis.length : Int)]
def Eqv (s0 s : DS) : Prop := s.vis.Perm s0.vis ∧ s.hid = s0.hid ∧ s.sts = s0.sts
def popS (s : DS) : DS :=
  let e := ((s.sts.getLast?.getD 0) - (s.vis.length : Int)).toNat
  ⟨s.vis ++ s.hid.drop (s.hid.length - e), s.hid.take (s.hid.length - e), s.sts.dropLast⟩
theorem Eqv.refl (s : DS) : Eqv s s := ⟨List.Perm.refl _, rfl, rfl⟩
theorem Eqv.trans {a b c : DS} (h : Eqv a b) (k : Eqv b c) : Eqv a c := ⟨k.1.trans h.1, k.2.1.trans h.2.1, k.2.2.trans h.2.2⟩
theorem Eqv.symm {a b : DS} (h : Eqv a b) : Eqv b a := ⟨h.1.symm, h.2.1.symm, h.2.2.symm⟩
theorem Eqv.okS {a b : DS} (h : Eqv a b) (o : okS a) : Csp.okS b := ⟨h.1.nodup_iff.mpr o.1, by rw [h.2.1, h.1.length_eq]; exact o.2⟩
theorem abv_push (s : DS) : Abv s (pushS s) := ⟨[], by simp [pushS], by simp [pushS], rfl⟩
theorem Abv.hid {a b c : DS} (h : Abv a b) (k : Hid b c) : Abv a c := by
  obtain ⟨t, h1, h2, h3⟩ := h
  obtain ⟨u, k1, k2, k3⟩ := k
  refine ⟨t ++ u, by rw [k1, h1, List.append_assoc], ?_, by rw [k3, h3]⟩
  have : (c.vis ++ (t ++ u)).Perm (c.vis ++ u ++ t) := by
    rw [List.append_assoc]
    exact List.Perm.append_left _ List.perm_append_comm
  exact this.trans ((k2.append_right t).trans h2)
theorem Abv.eqv {a b c : DS} (h : Abv a b) (k : Eqv b c) : Abv a c := by
  obtain ⟨t, h1, h2, h3⟩ := h
  exact ⟨t, by rw [k.2.1, h1], (k.1.append_right t).trans h2, by rw [k.2.2, h3]⟩
theorem Eqv.abv {a b c : DS} (h : Eqv a b) (k : Abv b c) : Abv a c := by
  obtain ⟨t, h1, h2, h3⟩ := k
  exact ⟨t, by rw [h1, h.2.1], h2.trans h.1, by rw [h3, h.2.2, h.1.length_eq]⟩
theorem Abv.okS {a b : DS} (h : Abv a b) (o : okS a) : Csp.okS b := by
  obtain ⟨t, h1, p, _⟩ := h
  refine ⟨(List.nodup_append.mp (p.nodup_iff.mpr o.1)).1, ?_⟩
  have := p.length_eq
  have := o.2
  rw [h1]
  simp only [List.length_append] at *
  omega
/-- what a pop needs to know, and what it brings back -/
theorem Abv.pop {a b : DS} (h : Abv a b) : Eqv a (popS b) ∧ ∃ e : Nat, e ≤ b.hid.length ∧ b.sts = (popS b).sts ++ [((b.vis.length + e : Nat) : Int)] ∧ (popS b).vis = b.vis ++ b.hid.drop (b.hid.length - e) ∧ (popS b).hid = b.hid.take (b.hid.length - e) := by
  obtain ⟨t, h1, p, h3⟩ := h
  have hl : a.vis.length = b.vis.length + t.length := by rw [← p.length_eq, List.length_append]
  have he : ((b.sts.getLast?.getD 0) - (b.vis.length : Int)).toNat = t.length := by
    rw [h3, List.getLast?_append]
    simp [hl]
    omega
  have hd : b.hid.drop (b.hid.length - t.length) = t := by
    rw [h1]
    simp
  have ht : b.hid.take (b.hid.length - t.length) = a.hid := by
    rw [h1]
    simp
  refine ⟨⟨?_, ?_, ?_⟩, t.length, ?_, ?_, ?_, ?_⟩
  · show (b.vis ++ b.hid.drop (b.hid.length - _)).Perm _
    rw [he, hd]; exact p
  · show b.hid.take (b.hid.length - _) = _
    rw [he, ht]
  · show b.sts.dropLast = _
    rw [h3]; simp
  · rw [h1]; simp
  · show b.sts = b.sts.dropLast ++ _
    rw [h3, ← hl]; simp
  · show b.vis ++ b.hid.drop (b.hid.length - _) = _
    rw [he]
  · show b.hid.take (b.hid.length - _) = _
    rw [he]

/-- a change of each domain of a list -/
def mapS (g : DS → DS) (ks : List Nat) (σ : Sg) : Sg := ks.foldl (fun σ k => σ.set k (g (σ k))) σ
theorem mapS_out (g : DS → DS) : ∀ (ks : List Nat) (σ : Sg) (k : Nat), k ∉ ks → mapS g ks σ k = σ k
  | [], _, _, _ => rfl
  | j :: r, σ, k, h => by
    simp only [List.mem_cons, not_or] at h
    show mapS g r (σ.set j (g (σ j))) k = σ k
    rw [mapS_out g r _ k h.2]
    unfold Sg.set
    rw [if_neg h.1]
theorem mapS_in (g : DS → DS) : ∀ (ks : List Nat) (σ : Sg) (k : Nat), ks.Nodup → k ∈ ks → mapS g ks σ k = g (σ k)
  | [], _, _, _, h => by cases h
  | j :: r, σ, k, nd, h => by
    obtain ⟨n1, n2⟩ := List.nodup_cons.mp nd
    show mapS g r (σ.set j (g (σ j))) k = g (σ k)
    rcases List.mem_cons.mp h with rfl | h2
    · rw [mapS_out g r _ _ n1]
      unfold Sg.set
      rw [if_pos rfl]
    · rw [mapS_in g r _ k n2 h2]
      unfold Sg.set
      rw [if_neg (by rintro rfl; exact n1 h2)]
end Csp

namespace Csp

/-- a problem as the solvers see it -/
structure Net where
  n : Nat
  dom : Nat → List Int
  vcs : Nat → List Con
structure Net.ok (N : Net) : Prop where
  small : N.n ≤ 6
  vars : ∀ k, k < N.n → ∀ c ∈ N.vcs k, ∀ j ∈ c.ks, j < N.n ∧ c ∈ N.vcs j
  bin : ∀ k, k < N.n → ∀ x ∈ N.dom k, x = 0 ∨ x = 1
def Net.Sol (N : Net) (f : Nat → Int) : Prop := Bin f ∧ (∀ k, k < N.n → f k ∈ N.dom k) ∧ ∀ k, k < N.n → ∀ c ∈ N.vcs k, c.sat f

/-- what holds between two choices of a search -/
structure Good (N : Net) (asg : As) (σ : Sg) : Prop where
  keep : ∀ f, N.Sol f → Ext asg f → In σ asg N.n f
  ne : ∀ k, k < N.n → look asg (k : Int) = none → (σ k).vis ≠ []
  sub : ∀ k, k < N.n → look asg (k : Int) = none → ∀ x ∈ (σ k).vis, x ∈ N.dom k
  done : ∀ k, k < N.n → ∀ c ∈ N.vcs k, (∀ j ∈ c.ks, look asg (j : Int) ≠ none) → ∀ f, Ext asg f → c.sat f
  val : ∀ (i : Int) v, look asg i = some v → ∃ k : Nat, i = k ∧ k < N.n ∧ ∃ x ∈ N.dom k, v = .int x
  ok : ∀ k, k < N.n → okS (σ k)

theorem Good.ints {N : Net} {asg : As} {σ : Sg} (G : Good N asg σ) : ∀ k v, look asg k = some v → ∃ i, v = .int i := fun k v h => by
  obtain ⟨_, _, _, x, _, e⟩ := G.val k v h
  exact ⟨x, e⟩

/-- asg' is asg and one variable more -/
def More (asg asg' : As) (v : Nat) (x : Int) : Prop := ∀ j : Int, look asg' j = if j = (v : Int) then some (.int x) else look asg j
theorem More.no {asg asg' : As} {v : Nat} {x : Int} (m : More asg asg' v x) {j : Nat} : look asg' (j : Int) = none ↔ j ≠ v ∧ look asg (j : Int) = none := by
  rw [m]
  by_cases e : (j : Int) = v
  · rw [if_pos e]
    have : j = v := by omega
    simp [this]
  · rw [if_neg e]
    have : j ≠ v := by omega
    simp [this]
theorem More.ext {asg asg' : As} {v : Nat} {x : Int} {f : Nat → Int} (m : More asg asg' v x) (h : look asg (v : Int) = none) : Ext asg' f ↔ Ext asg f ∧ f v = x := by
  constructor
  · intro E
    refine ⟨fun k u e => ?_, ?_⟩
    · have : (k : Int) ≠ v := by
        intro e2; rw [e2, h] at e; cases e
      exact E k u (by rw [m, if_neg this]; exact e)
    · have := E v (.int x) (by rw [m, if_pos rfl])
      injection this with this
      exact this.symm
  · rintro ⟨E, rfl⟩ k u e
    rw [m] at e
    by_cases e2 : (k : Int) = v
    · rw [if_pos e2] at e
      have : k = v := by omega
      subst this
      exact (Option.some.inj e).symm
    · rw [if_neg e2] at e
      exact E k u e

theorem good_step {N : Net} (hN : N.ok) {asg asg' : As} {σ σ1 : Sg} {v : Nat} {x : Int} {fb : Bool} (G : Good N asg σ) (hv : v < N.n) (hn : look asg (v : Int) = none) (hx : x ∈ (σ v).vis) (m : More asg asg' v x) (h1 : ∀ k, (σ1 k).vis = (σ k).vis) (h2 : ∀ k, (σ1 k).hid = (σ k).hid) :
    ((conAll (N.vcs v) asg' fb σ1).1 = true → Good N asg' (conAll (N.vcs v) asg' fb σ1).2) ∧
    ((conAll (N.vcs v) asg' fb σ1).1 = false → ∀ f, N.Sol f → Ext asg' f → False) := by
  have vars : ∀ c ∈ N.vcs v, ∀ j ∈ c.ks, j < N.n := fun c hc j hj => (hN.vars v hv c hc j hj).1
  have keep : ∀ f, N.Sol f → Ext asg' f → (conAll (N.vcs v) asg' fb σ1).1 = true ∧ In (conAll (N.vcs v) asg' fb σ1).2 asg' N.n f := by
    intro f hf E
    refine all_keep hf.1 E _ _ (fun c hc => ⟨vars c hc, hf.2.2 v hv c hc⟩) fun k hk e => ?_
    rw [h1]
    exact G.keep f hf ((m.ext hn).mp E).1 k hk (m.no.mp e).2
  refine ⟨fun ht => ⟨fun f hf E => (keep f hf E).2, fun k hk e => ?_, fun k hk e y hy => ?_, fun k hk c hc ha f E => ?_, fun i u e => ?_, fun k hk => ?_⟩, fun hb f hf E => ?_⟩
  · refine (all_hid asg' fb (N.vcs v) σ1 k).2.2.2 ht e ?_
    rw [h1]; exact G.ne k hk (m.no.mp e).2
  · have := (all_hid asg' fb (N.vcs v) σ1 k).1.sub hy
    rw [h1] at this
    exact G.sub k hk (m.no.mp e).2 y this
  · by_cases hm : v ∈ c.ks
    · exact all_done E _ _ ht c (hN.vars k hk c hc v hm).2 ha
    · refine G.done k hk c hc (fun j hj e => ?_) f ((m.ext hn).mp E).1
      exact ha j hj (m.no.mpr ⟨by rintro rfl; exact hm hj, e⟩)
  · rw [m] at e
    by_cases e2 : i = v
    · rw [if_pos e2] at e
      exact ⟨v, e2, hv, x, G.sub v hv hn x hx, (Option.some.inj e).symm⟩
    · rw [if_neg e2] at e
      exact G.val i u e
  · refine (all_hid asg' fb (N.vcs v) σ1 k).1.okS ?_
    have := G.ok k hk
    unfold okS at *
    rw [h1, h2]; exact this
  · rw [(keep f hf E).1] at hb; cases hb

theorem good_full {N : Net} (hN : N.ok) {asg : As} {σ : Sg} (G : Good N asg σ) (h : ∀ k, k < N.n → look asg (k : Int) ≠ none) : ∃ f, N.Sol f ∧ ∀ k, k < N.n → look asg (k : Int) = some (.int (f k)) := by
  let f : Nat → Int := fun k => match look asg (k : Int) with | some (.int x) => x | _ => 0
  have hf : ∀ k v, look asg ((k : Nat) : Int) = some v → v = .int (f k) := fun k v e => by
    obtain ⟨x, rfl⟩ := G.ints _ v e
    show AV.int x = .int (match look asg (k : Int) with | some (.int x) => x | _ => 0)
    rw [e]
  have at' : ∀ k, k < N.n → look asg (k : Int) = some (.int (f k)) ∧ f k ∈ N.dom k := fun k hk => by
    cases e : look asg (k : Int) with
    | none => exact absurd e (h k hk)
    | some v =>
      obtain ⟨j, h1, h2, x, h3, h4⟩ := G.val _ v e
      have : j = k := by omega
      subst this
      have h5 := hf j v e
      rw [h4] at h5
      injection h5 with h5
      rw [h4, ← h5]
      exact ⟨rfl, h3⟩
  refine ⟨f, ⟨fun k => ?_, fun k hk => (at' k hk).2, fun k hk c hc => G.done k hk c hc (fun j hj => h j (hN.vars k hk c hc j hj).1) f hf⟩, fun k hk => (at' k hk).1⟩
  show (match look asg (k : Int) with | some (.int x) => x | _ => 0) = 0 ∨ (match look asg (k : Int) with | some (.int x) => x | _ => 0) = 1
  cases e : look asg (k : Int) with
  | none => exact .inl rfl
  | some v =>
    obtain ⟨j, h1, h2, x, h3, rfl⟩ := G.val _ v e
    exact hN.bin j h2 x h3

/-- where a search begins -/
theorem good_start {N : Net} (hN : N.ok) {σ : Sg} (h1 : ∀ k, k < N.n → (σ k).vis.Perm (N.dom k)) (h2 : ∀ k, k < N.n → N.dom k ≠ []) (h3 : ∀ k, k < N.n → okS (σ k)) (h4 : ∀ k, k < N.n → ∀ c ∈ N.vcs k, c.ks ≠ []) : Good N [] σ where
  keep f hf _ k hk _ := (h1 k hk).symm.subset (hf.2.1 k hk)
  ne k hk _ e := h2 k hk (by have := h1 k hk; rw [e] at this; exact this.nil_eq.symm)
  sub k hk _ x hx := (h1 k hk).subset hx
  done k hk c hc ha f _ := by
    cases hks : c.ks with
    | nil => exact absurd hks (h4 k hk c hc)
    | cons j r => exact absurd rfl (ha j (by rw [hks]; simp))
  val i v e := by cases e
  ok := h3

/-- a state of the domains that differs in order alone -/
theorem Good.eqv {N : Net} {asg : As} {σ σ' : Sg} (G : Good N asg σ) (h : ∀ k, k < N.n → Eqv (σ k) (σ' k)) : Good N asg σ' where
  keep f hf E k hk e := (h k hk).1.symm.subset (G.keep f hf E k hk e)
  ne k hk e e2 := G.ne k hk e (by have := (h k hk).1; rw [e2] at this; exact this.nil_eq.symm)
  sub k hk e x hx := G.sub k hk e x ((h k hk).1.subset hx)
  done := G.done
  val := G.val
  ok k hk := (h k hk).okS (G.ok k hk)
end Csp

namespace Csp
open PySem PySem.W PySem.Calls PyProof.Rows PySem.SeqAt Builtin Builtin.ObjectAttr

/-- a constraint and its list of variables, outside of S -/
structure ConAt (H : Hp) (S : List Addr) (c vl : Addr) (con : Con) : Prop where
  lst : H vl = some (.list (con.ks.map fun (k : Nat) => AV.int (k : Int)))
  nl : vl ∉ S
  nc : c ∉ S
  n347 : c ≠ 347
  obj : match con with
    | .mx i _ => ∃ cdx, H c = some (.inst 410 cdx) ∧ cdx ∉ S ∧ H cdx = some (.ns [("_maxsum", .int i), ("_multipliers", .none)])
    | .mn i _ => ∃ cdx, H c = some (.inst 438 cdx) ∧ cdx ∉ S ∧ H cdx = some (.ns [("_minsum", .int i), ("_multipliers", .none)])
    | .sm _ => ∃ cdx l, H c = some (.inst 466 cdx) ∧ cdx ∉ S ∧ H cdx = some (.ns [("_set", .ref l), ("_n", .int 1), ("_exact", .bool false)]) ∧ l ∉ S ∧ H l = some (.list [.int 1])

theorem ConAt.chg {H H' : Hp} {S : List Addr} {c vl : Addr} {con : Con} (C : ConAt H S c vl con) (k : Chg S H H') : ConAt H' S c vl con := by
  refine ⟨k _ _ C.lst C.nl, C.nl, C.nc, C.n347, ?_⟩
  have o := C.obj
  cases con with
  | mx i ks => obtain ⟨x, a, b, d⟩ := o; exact ⟨x, k _ _ a C.nc, b, k _ _ d b⟩
  | mn i ks => obtain ⟨x, a, b, d⟩ := o; exact ⟨x, k _ _ a C.nc, b, k _ _ d b⟩
  | sm ks => obtain ⟨x, l, a, b, d, e, f⟩ := o; exact ⟨x, l, k _ _ a C.nc, b, k _ _ d b, e, k _ _ f e⟩
theorem ConAt.sub {H : Hp} {S S' : List Addr} {c vl : Addr} {con : Con} (C : ConAt H S c vl con) (k : ∀ a, a ∈ S' → a ∈ S) : ConAt H S' c vl con := by
  refine ⟨C.lst, fun m => C.nl (k _ m), fun m => C.nc (k _ m), C.n347, ?_⟩
  have o := C.obj
  cases con with
  | mx i ks => obtain ⟨x, a, b, d⟩ := o; exact ⟨x, a, fun m => b (k _ m), d⟩
  | mn i ks => obtain ⟨x, a, b, d⟩ := o; exact ⟨x, a, fun m => b (k _ m), d⟩
  | sm ks => obtain ⟨x, l, a, b, d, e, f⟩ := o; exact ⟨x, l, a, fun m => b (k _ m), d, fun m => e (k _ m), f⟩
theorem ConAt.inst {H : Hp} {S : List Addr} {c vl : Addr} {con : Con} (C : ConAt H S c vl con) : ∃ C' dx, H c = some (.inst C' dx) ∧ C' ∈ consC := by
  have o := C.obj
  cases con with
  | mx i ks => obtain ⟨x, a, _⟩ := o; exact ⟨_, x, a, by decide⟩
  | mn i ks => obtain ⟨x, a, _⟩ := o; exact ⟨_, x, a, by decide⟩
  | sm ks => obtain ⟨x, l, a, _⟩ := o; exact ⟨_, x, a, by decide⟩

theorem sum_some {asg : As} (hi : ∀ k v, look asg k = some v → ∃ i, v = .int i) : ∀ (ks : List Nat), ((toI ks).all (fun k => asg.any fun p => p.1 == k)) = true → ∃ t, sumOf asg (toI ks) = some t
  | [], _ => ⟨0, rfl⟩
  | j :: r, h => by
    have h' : (asg.any fun p => p.1 == (j : Int)) = true ∧ (toI r).all (fun k => asg.any fun p => p.1 == k) = true := by
      have : (toI (j :: r)).all (fun k => asg.any fun p => p.1 == k) = ((asg.any fun p => p.1 == (j : Int)) && (toI r).all (fun k => asg.any fun p => p.1 == k)) := rfl
      rw [this, Bool.and_eq_true] at h
      exact h
    obtain ⟨t, e⟩ := sum_some hi r h'.2
    cases hl : look asg (j : Int) with
    | none => exact absurd hl (any_some.mp h'.1)
    | some v =>
      obtain ⟨i, rfl⟩ := hi _ v hl
      refine ⟨i + t, ?_⟩
      show (match look asg (j : Int), sumOf asg (toI r) with
        | some (.int v), some s => some (v + s)
        | _, _ => none) = _
      rw [hl, e]

section
variable {prog : Program} {w : World} {n : Nat} {H0 H : Hp}

theorem cx_up {m : Nat} {f : AV} {vs : List AV} {Q : AV → Hp → Prop} (h : CX prog w n f vs Q H) (hm : n ≤ m) : CX prog w m f vs Q H := fun fs A F fv vv s R T e1 e2 S =>
  h fs A F fv vv s (R.down hm) T e1 e2 S

theorem cx_con {con : Con} {S : List Addr} {c vl a dd : Addr} {asg : As} {ep ep2 : Nat} {fc : AV} {fb : Bool} {vt : List Vr} {σ : Sg} {Q : AV → Hp → Prop} (C : ConAt H (dynOf vt) c vl con)
    (ha : H a = some (.dict asg ep)) (hd : H dd = some (.dict (tab vt) ep2)) (na : a ∉ dynOf vt) (ndd : dd ∉ dynOf vt) (hp : vt.Pairwise Apart)
    (hi : ∀ k v, look asg k = some v → ∃ i, v = .int i) (hk : ∀ k ∈ con.ks, k < vt.length) (D : Doms H vt σ) (ok : ∀ i, i < vt.length → okS (σ i))
    (hf : ∀ (R : Bool → Hp → Prop) (H' : Hp), Chg (dynOf vt) H H' → R fb H' → truthP fc R H')
    (q : ∀ H', Chg (dynOf vt) H H' → Doms H' vt (conR con asg fb σ).2 → Q (.bool (conR con asg fb σ).1) H') :
    CX prog w 2 (.ref c) [.ref vl, .ref dd, .ref a, fc] Q H := by
  have o := C.obj
  cases con with
  | mx i ks =>
    obtain ⟨cdx, h1, h2, h3⟩ := o
    exact cx_inst (f := 407) (by decide) h1 (cx_407 h1 h3 C.lst ha hd na ndd C.nl hp hi hk D ok hf q)
  | mn i ks =>
    obtain ⟨cdx, h1, h2, h3⟩ := o
    have hv : H vl = some (.list ((toI ks).map .int)) := by
      have := C.lst
      rw [this]
      simp [toI, Con.ks]
    refine cx_inst (f := 435) (by decide) h1 (cx_up (cx_435 h1 h3 hv ha ?_) (by decide))
    have q0 := q H (Chg.refl _ _) D
    simp only [conR] at q0
    by_cases h : (toI ks).all (fun k => asg.any fun p => p.1 == k) = true
    · rw [if_pos h] at q0 ⊢
      obtain ⟨t, e⟩ := sum_some hi ks h
      rw [e] at q0
      exact ⟨t, e, q0⟩
    · rw [if_neg h] at q0 ⊢
      exact q0
  | sm ks =>
    obtain ⟨cdx, l, h1, h2, h3, h4, h5⟩ := o
    exact cx_inst (f := 463) (by decide) h1 (cx_463 h1 h3 h5 h4 C.nc h2 C.lst ha hd na ndd C.nl hp hi hk D ok hf q)

def bodyCons : SL := .cons (.ife (.not (.call (.loc "constraint") (.cons (.loc "variables") (.cons (.loc "domains") (.cons (.loc "assignments") (.cons (.loc "pushdomains") .nil)))))) (.cons .brk .nil) .nil) .nil

structure Ent where
  z : Addr
  c : Addr
  vl : Addr
  con : Con
/-- an entry of a list of constraints -/
structure EntAt (H : Hp) (S : List Addr) (e : Ent) : Prop where
  tup : H e.z = some (.tuple [.ref e.c, .ref e.vl])
  nz : e.z ∉ S
  con : ConAt H S e.c e.vl e.con
theorem EntAt.chg {H H' : Hp} {S : List Addr} {e : Ent} (E : EntAt H S e) (k : Chg S H H') : EntAt H' S e := ⟨k _ _ E.tup E.nz, E.nz, E.con.chg k⟩
theorem EntAt.sub {H : Hp} {S S' : List Addr} {e : Ent} (E : EntAt H S e) (k : ∀ a, a ∈ S' → a ∈ S) : EntAt H S' e := ⟨E.tup, fun m => E.nz (k _ m), E.con.sub k⟩

theorem loopCons {src : AV} {a dd : Addr} {asg : As} {ep ep2 : Nat} {fc : AV} {fb : Bool} {vt : List Vr} {Q : Fl → Loc → Hp → Prop} {fin : ST}
    (hsrc : ∀ H', Chg (dynOf vt) H0 H' → sameSrc H0 H' src) (ha : H0 a = some (.dict asg ep)) (hd : H0 dd = some (.dict (tab vt) ep2)) (na : a ∉ dynOf vt) (ndd : dd ∉ dynOf vt) (hp : vt.Pairwise Apart)
    (hi : ∀ k v, look asg k = some v → ∃ i, v = .int i) (hf : ∀ (R : Bool → Hp → Prop) (H' : Hp), Chg (dynOf vt) H0 H' → R fb H' → truthP fc R H') (hn : 2 ≤ n) (m0 : Loc) :
    ∀ (L : List Ent) (m : Loc) (H : Hp) (σ : Sg), m "domains" = some (.ref dd) → m "assignments" = some (.ref a) → m "pushdomains" = some fc → (∀ y, y ≠ "constraint" → y ≠ "variables" → m y = m0 y) →
      (∀ e ∈ L, EntAt H0 (dynOf vt) e ∧ ∀ k ∈ e.con.ks, k < vt.length) → Chg (dynOf vt) H0 H → Doms H vt σ → (∀ i, i < vt.length → okS (σ i)) →
      (∀ m' H', (∀ y, y ≠ "constraint" → y ≠ "variables" → m' y = m0 y) → Chg (dynOf vt) H0 H' → Doms H' vt (conAll (L.map (·.con)) asg fb σ).2 → if (conAll (L.map (·.con)) asg fb σ).1 then fin Q m' H' else Q .next m' H') →
      forL (fun H' => sameSrc H0 H' src) (fun y Q' m' H' => bindT ["constraint", "variables"] y (fun m'' => semSL (CX prog w n) bodyCons Q' m'') m' H') fin Q (L.map fun e => AV.ref e.z) m H := by
  intro L
  induction L with
  | nil =>
    intro m H σ s1 s2 s3 k hL c D ok q
    exact ⟨hsrc H c, q m H k c D⟩
  | cons e r ih =>
    intro m H σ s1 s2 s3 k hL c D ok q
    obtain ⟨E, hks⟩ := hL e (by simp)
    have E' := E.chg c
    rw [List.map_cons, forL]
    refine ⟨hsrc H c, ?_⟩
    simp only [bindT, E'.tup]
    refine ⟨rfl, ?_⟩
    simp only [List.zip, List.zipWith, List.foldl]
    generalize hm : upL (upL m "constraint" (.ref e.c)) "variables" (.ref e.vl) = m1
    have t1 : m1 "constraint" = some (.ref e.c) := by rw [← hm]; simp [upL]
    have t2 : m1 "variables" = some (.ref e.vl) := by rw [← hm]; simp [upL]
    have t3 : m1 "domains" = some (.ref dd) := by rw [← hm]; simp [upL, s1]
    have t4 : m1 "assignments" = some (.ref a) := by rw [← hm]; simp [upL, s2]
    have t5 : m1 "pushdomains" = some fc := by rw [← hm]; simp [upL, s3]
    have k1 : ∀ y, y ≠ "constraint" → y ≠ "variables" → m1 y = m0 y := fun y n1 n2 => by rw [← hm, ← k y n1 n2]; simp [upL, n1, n2]
    simp only [bodyCons, semSL, semS, semX, semL, VT.of, t1, t2, t3, t4, t5]
    refine ⟨.inr (by obtain ⟨C', dx, h, _⟩ := E'.con.inst; rw [h]; trivial), ?_⟩
    refine cx_up (cx_con (S := dynOf vt) E'.con (c _ _ ha na) (c _ _ hd ndd) na ndd hp hi hks D ok (fun R H' c' => hf R H' (c.trans c')) fun H' c' D' => ?_) hn
    simp only [truthP]
    simp only [List.map_cons, conAll] at q
    cases hb : (conR e.con asg fb σ).1
    · rw [hb] at q
      simp only [Bool.false_eq_true, if_false] at q
      have := q m1 H' k1 (c.trans c') D'
      simpa using this
    · rw [hb] at q
      simp only [if_true] at q
      exact ih m1 H' _ t3 t4 t5 k1 (fun e' m' => hL e' (by simp [m'])) (c.trans c') D' (fun i hi' => (con_hid e.con asg fb σ i).1.okS (ok i hi')) q
end
end Csp

namespace Csp
open PySem PySem.W PySem.Calls PyProof.Rows PySem.SeqAt Builtin Builtin.ObjectAttr

def vd (vt : List Vr) (k : Nat) : Addr := ((vt[k]?).map (·.d)).getD 0
theorem vd_of {vt : List Vr} {k : Nat} {v : Vr} (h : vt[k]? = some v) : vd vt k = v.d := by simp [vd, h]
/-- the list of domains that a choice pushes, or None -/
def PdAt (H : Hp) (S : List Addr) (fc : AV) (vt : List Vr) (ks : List Nat) : Prop :=
  (fc = .none ∧ ks = []) ∨ ∃ p, fc = .ref p ∧ p ∉ S ∧ H p = some (.list (ks.map fun k => .ref (vd vt k)))
theorem PdAt.chg {H H' : Hp} {S : List Addr} {fc : AV} {vt : List Vr} {ks : List Nat} (P : PdAt H S fc vt ks) (c : Chg S H H') : PdAt H' S fc vt ks := by
  rcases P with h | ⟨p, h1, h2, h3⟩
  · exact .inl h
  · exact .inr ⟨p, h1, h2, c _ _ h3 h2⟩
theorem PdAt.sub {H : Hp} {S S' : List Addr} {fc : AV} {vt : List Vr} {ks : List Nat} (P : PdAt H S fc vt ks) (k : ∀ a, a ∈ S' → a ∈ S) : PdAt H S' fc vt ks := by
  rcases P with h | ⟨p, h1, h2, h3⟩
  · exact .inl h
  · exact .inr ⟨p, h1, fun m => h2 (k _ m), h3⟩
theorem PdAt.truth {H : Hp} {S : List Addr} {fc : AV} {vt : List Vr} {ks : List Nat} (P : PdAt H S fc vt ks) {R : Bool → Hp → Prop} (h : R (!ks.isEmpty) H) : truthP fc R H := by
  rcases P with ⟨rfl, rfl⟩ | ⟨p, rfl, h2, h3⟩
  · exact h
  · rw [e_truth_list h3]
    cases ks <;> exact h
theorem PdAt.plain {H : Hp} {S : List Addr} {fc : AV} {vt : List Vr} {ks : List Nat} (P : PdAt H S fc vt ks) : fc.plain = true := by
  rcases P with ⟨rfl, rfl⟩ | ⟨p, rfl, h2, h3⟩ <;> rfl

def bodyPP (nm : String) : SL := .cons (.expr (.meth (.loc "domain") nm .nil)) .nil
def stPP (nm : String) : S := .ife (.loc "pushdomains") (.cons (.for1 ["domain"] (.loc "pushdomains") (bodyPP nm) .nil) .nil) .nil

section
variable {prog : Program} {w : World} {n : Nat} {H0 H : Hp}

theorem step_push {vt : List Vr} (hp : vt.Pairwise Apart) {σ : Sg} {k : Nat} {v : Vr} (hv : vt[k]? = some v) (D : Doms H vt σ) (hz : (σ k).sts.length < 1000) {Q : AV → Hp → Prop}
    (q : ∀ H', Chg (dynOf vt) H H' → Doms H' vt (σ.set k (pushS (σ k))) → Q .none H') : CX prog w 1 (.ref 286) [.ref v.d] Q H := by
  have V := D k v hv
  have hd : v.dx ≠ v.d := fun e => by have := V.ns; rw [e, V.dom] at this; exact absurd this (by simp)
  have ht : v.t ≠ v.d := fun e => by have := V.sts; rw [e, V.dom] at this; exact absurd this (by simp)
  have htx : v.t ≠ v.dx := fun e => by have := V.sts; rw [e, V.ns] at this; exact absurd this (by simp)
  obtain ⟨d1, d2, d3⟩ := dyn_mem hv
  refine cx_push V (by unfold big; simp; omega) (q _ ((Chg.refl _ _).upd d3) ?_)
  refine D.one hp hv (s := pushS (σ k)) ((Chg.refl _ _).upd (by simp)) ⟨upd_old V.dom ht.symm, upd_old V.ns htx.symm, upd_old V.hid V.ne, ?_, V.ne⟩
  rw [upd_at]
  simp [pushS]

theorem step_pop {vt : List Vr} (hp : vt.Pairwise Apart) {σ : Sg} {k : Nat} {v : Vr} (hv : vt[k]? = some v) (D : Doms H vt σ) (ok : okS (σ k)) {s0 : DS} (hA : Abv s0 (σ k)) {Q : AV → Hp → Prop}
    (q : ∀ H', Chg (dynOf vt) H H' → Doms H' vt (σ.set k (popS (σ k))) → Q .none H') : CX prog w 1 (.ref 293) [.ref v.d] Q H := by
  have V := D k v hv
  obtain ⟨d1, d2, d3⟩ := dyn_mem hv
  obtain ⟨_, e, h1, h2, h3, h4⟩ := hA.pop
  have o := ok.2
  have V' : DomAt H v.d v.dx v.h v.t ((σ k).vis.map .int) ((σ k).hid.map .int) (((popS (σ k)).sts.map .int) ++ [.int (((σ k).vis.map AV.int).length + e : Nat)]) := by
    have z : VrAt H v ((σ k).vis.map .int) ((σ k).hid.map .int) ((σ k).sts.map .int) := V
    rw [h2] at z
    unfold VrAt at z
    simpa using z
  refine cx_pop V' (by simp; unfold big; omega) (by simpa using h1) fun H' c D' => ?_
  refine q H' (c.mono (by simp; exact ⟨d3, d1, d2⟩)) (D.one hp hv (s := popS (σ k)) c ?_)
  unfold VrAt
  rw [h3, h4]
  simpa [List.map_drop, List.map_take] using D'

theorem loopPush {src : AV} {vt : List Vr} (hp : vt.Pairwise Apart) (hsrc : ∀ H', Chg (dynOf vt) H0 H' → sameSrc H0 H' src) (hn : 1 ≤ n) {Q : Fl → Loc → Hp → Prop} (m0 : Loc) :
    ∀ (ks : List Nat) (m : Loc) (H : Hp) (σ : Sg), (∀ y, y ≠ "domain" → m y = m0 y) → (∀ k ∈ ks, k < vt.length) → Chg (dynOf vt) H0 H → Doms H vt σ → ks.Nodup → (∀ k ∈ ks, (σ k).sts.length < 1000) →
      (∀ m' H', (∀ y, y ≠ "domain" → m' y = m0 y) → Chg (dynOf vt) H0 H' → Doms H' vt (mapS pushS ks σ) → Q .next m' H') →
      forL (fun H' => sameSrc H0 H' src) (fun y Q' m' H' => bindT ["domain"] y (fun m'' => semSL (CX prog w n) (bodyPP "pushState") Q' m'') m' H') (semSL (CX prog w n) .nil) Q (ks.map fun k => AV.ref (vd vt k)) m H := by
  intro ks
  induction ks with
  | nil => exact fun m H σ k1 hk c D nd hz q => ⟨hsrc H c, q m H k1 c D⟩
  | cons k r ih =>
    intro m H σ k1 hk c D nd hz q
    obtain ⟨n1, n2⟩ := List.nodup_cons.mp nd
    have lk := hk k (by simp)
    obtain ⟨v, hv⟩ : ∃ v, vt[k]? = some v := ⟨_, List.getElem?_eq_getElem lk⟩
    have V := D k v hv
    rw [List.map_cons, forL]
    refine ⟨hsrc H c, ?_⟩
    have mm : methOf H (.ref v.d) "pushState" = some (.py 286) := by
      rw [e_meth_dom V.dom V.ns (by decide)]; rfl
    rw [vd_of hv]
    simp only [bindT, bodyPP, semSL, semS, semX, semL, VT.of, upL, if_true, mm]
    refine cx_up (step_push hp hv D (hz k (by simp)) fun H' c' D' => ?_) hn
    refine ih _ H' _ (fun y ny => by rw [← k1 y ny]; simp [upL, ny]) (fun j hj => hk j (by simp [hj])) (c.trans c') D' n2 (fun j hj => ?_) q
    unfold Sg.set
    rw [if_neg (by rintro rfl; exact n1 hj)]
    exact hz j (by simp [hj])

theorem loopPop {src : AV} {vt : List Vr} (hp : vt.Pairwise Apart) (hsrc : ∀ H', Chg (dynOf vt) H0 H' → sameSrc H0 H' src) (hn : 1 ≤ n) {Q : Fl → Loc → Hp → Prop} (m0 : Loc) :
    ∀ (ks : List Nat) (m : Loc) (H : Hp) (σ : Sg), (∀ y, y ≠ "domain" → m y = m0 y) → (∀ k ∈ ks, k < vt.length) → Chg (dynOf vt) H0 H → Doms H vt σ → ks.Nodup → (∀ k ∈ ks, okS (σ k) ∧ ∃ s0, Abv s0 (σ k)) →
      (∀ m' H', (∀ y, y ≠ "domain" → m' y = m0 y) → Chg (dynOf vt) H0 H' → Doms H' vt (mapS popS ks σ) → Q .next m' H') →
      forL (fun H' => sameSrc H0 H' src) (fun y Q' m' H' => bindT ["domain"] y (fun m'' => semSL (CX prog w n) (bodyPP "popState") Q' m'') m' H') (semSL (CX prog w n) .nil) Q (ks.map fun k => AV.ref (vd vt k)) m H := by
  intro ks
  induction ks with
  | nil => exact fun m H σ k1 hk c D nd hz q => ⟨hsrc H c, q m H k1 c D⟩
  | cons k r ih =>
    intro m H σ k1 hk c D nd hz q
    obtain ⟨n1, n2⟩ := List.nodup_cons.mp nd
    have lk := hk k (by simp)
    obtain ⟨v, hv⟩ : ∃ v, vt[k]? = some v := ⟨_, List.getElem?_eq_getElem lk⟩
    have V := D k v hv
    rw [List.map_cons, forL]
    refine ⟨hsrc H c, ?_⟩
    have mm : methOf H (.ref v.d) "popState" = some (.py 293) := by
      rw [e_meth_dom V.dom V.ns (by decide)]; rfl
    rw [vd_of hv]
    simp only [bindT, bodyPP, semSL, semS, semX, semL, VT.of, upL, if_true, mm]
    obtain ⟨o, s0, hA⟩ := hz k (by simp)
    refine cx_up (step_pop hp hv D o hA fun H' c' D' => ?_) hn
    refine ih _ H' _ (fun y ny => by rw [← k1 y ny]; simp [upL, ny]) (fun j hj => hk j (by simp [hj])) (c.trans c') D' n2 (fun j hj => ?_) q
    unfold Sg.set
    rw [if_neg (by rintro rfl; exact n1 hj)]
    exact hz j (by simp [hj])

theorem sem_push {vt : List Vr} (hp : vt.Pairwise Apart) (hn : 1 ≤ n) {fc : AV} {ks : List Nat} {m : Loc} {σ : Sg} {Q : Fl → Loc → Hp → Prop} (s1 : m "pushdomains" = some fc) (P : PdAt H (dynOf vt) fc vt ks) (hk : ∀ k ∈ ks, k < vt.length) (D : Doms H vt σ) (nd : ks.Nodup) (hz : ∀ k ∈ ks, (σ k).sts.length < 1000)
    (q : ∀ m' H', (∀ y, y ≠ "domain" → m' y = m y) → Chg (dynOf vt) H H' → Doms H' vt (mapS pushS ks σ) → Q .next m' H') : semS (CX prog w n) (stPP "pushState") Q m H := by
  simp only [stPP]
  rw [semS]
  simp only [semX, VT.of, s1]
  refine P.truth ?_
  rcases P with ⟨rfl, rfl⟩ | ⟨p, rfl, h2, h3⟩
  · simp only [List.isEmpty_nil, Bool.not_true, Bool.false_eq_true, if_false, semSL]
    exact q m H (fun _ _ => rfl) (Chg.refl _ _) D
  · cases ks with
    | nil =>
      simp only [List.isEmpty_nil, Bool.not_true, Bool.false_eq_true, if_false, semSL]
      exact q m H (fun _ _ => rfl) (Chg.refl _ _) D
    | cons k r =>
      simp only [List.isEmpty_cons, Bool.not_false, if_true]
      rw [semSL, semS]
      simp only [semX, VT.of, s1, e_items_list h3]
      refine loopPush (prog := prog) (w := w) (H0 := H) hp (fun H' c => by simp only [sameSrc, h3, c _ _ h3 h2, and_self]) hn m (k :: r) m H σ (fun _ _ => rfl) hk (Chg.refl _ _) D nd hz fun m' H' a b c => ?_
      simp only [semSL]
      exact q m' H' a b c

theorem sem_pop {vt : List Vr} (hp : vt.Pairwise Apart) (hn : 1 ≤ n) {fc : AV} {ks : List Nat} {m : Loc} {σ : Sg} {Q : Fl → Loc → Hp → Prop} (s1 : m "pushdomains" = some fc) (P : PdAt H (dynOf vt) fc vt ks) (hk : ∀ k ∈ ks, k < vt.length) (D : Doms H vt σ) (nd : ks.Nodup) (hz : ∀ k ∈ ks, okS (σ k) ∧ ∃ s0, Abv s0 (σ k))
    (q : ∀ m' H', (∀ y, y ≠ "domain" → m' y = m y) → Chg (dynOf vt) H H' → Doms H' vt (mapS popS ks σ) → Q .next m' H') : semS (CX prog w n) (stPP "popState") Q m H := by
  simp only [stPP]
  rw [semS]
  simp only [semX, VT.of, s1]
  refine P.truth ?_
  rcases P with ⟨rfl, rfl⟩ | ⟨p, rfl, h2, h3⟩
  · simp only [List.isEmpty_nil, Bool.not_true, Bool.false_eq_true, if_false, semSL]
    exact q m H (fun _ _ => rfl) (Chg.refl _ _) D
  · cases ks with
    | nil =>
      simp only [List.isEmpty_nil, Bool.not_true, Bool.false_eq_true, if_false, semSL]
      exact q m H (fun _ _ => rfl) (Chg.refl _ _) D
    | cons k r =>
      simp only [List.isEmpty_cons, Bool.not_false, if_true]
      rw [semSL, semS]
      simp only [semX, VT.of, s1, e_items_list h3]
      refine loopPop (prog := prog) (w := w) (H0 := H) hp (fun H' c => by simp only [sameSrc, h3, c _ _ h3 h2, and_self]) hn m (k :: r) m H σ (fun _ _ => rfl) hk (Chg.refl _ _) D nd hz fun m' H' a b c => ?_
      simp only [semSL]
      exact q m' H' a b c
end
end Csp

namespace Csp
open PySem PySem.W PySem.Calls PyProof.Rows PySem.SeqAt Builtin Builtin.ObjectAttr

theorem Chg.updF {S : List Addr} {H H1 : Hp} (h : Chg S H H1) {a : Addr} {o : AO} (m : H a = none) : Chg S H (Csp.upd H1 a o) := fun b x e n => by
  rw [upd_ne (by rintro rfl; rw [m] at e; cases e)]; exact h b x e n
theorem Fresh.backS {S : List Addr} {H K : Hp} {a : Addr} (f : Fresh K a) (h : Chg S H K) (ha : a ∉ S) : Fresh H a := by
  refine ⟨?_, f.2⟩
  cases e : H a with
  | none => rfl
  | some x => have := h a x e ha; rw [f.1] at this; cases this
theorem Doms.chg0 {H H' : Hp} {vt : List Vr} {σ : Sg} (D : Doms H vt σ) (c : Chg [] H H') : Doms H' vt σ := fun i v h => DomAt.chg (D i v h) c (by simp) (by simp) (by simp) (by simp)

/-- what a solver is given -/
structure Srch (H : Hp) (S : List Addr) (N : Net) (vt : List Vr) (dd vc : Addr) (lsts : Nat → Addr) (ents : Nat → List Ent) : Prop where
  len : vt.length = N.n
  ap : vt.Pairwise Apart
  dom : ∃ ep, H dd = some (.dict (tab vt) ep)
  nd : dd ∉ S
  vcd : ∃ ep, H vc = some (.dict ((List.range N.n).map fun (k : Nat) => ((k : Int), AV.ref (lsts k))) ep)
  nv : vc ∉ S
  lst : ∀ k, k < N.n → H (lsts k) = some (.list ((ents k).map fun e => .ref e.z)) ∧ lsts k ∉ S
  ent : ∀ k, k < N.n → ∀ e ∈ ents k, EntAt H S e
  con : ∀ k, k < N.n → (ents k).map (·.con) = N.vcs k
  dyn : ∀ a ∈ dynOf vt, a ∈ S
theorem Srch.chg {H H' : Hp} {S : List Addr} {N : Net} {vt : List Vr} {dd vc : Addr} {lsts : Nat → Addr} {ents : Nat → List Ent} (R : Srch H S N vt dd vc lsts ents) (c : Chg S H H') : Srch H' S N vt dd vc lsts ents where
  len := R.len
  ap := R.ap
  dom := by obtain ⟨e, h⟩ := R.dom; exact ⟨e, c _ _ h R.nd⟩
  nd := R.nd
  vcd := by obtain ⟨e, h⟩ := R.vcd; exact ⟨e, c _ _ h R.nv⟩
  nv := R.nv
  lst k hk := ⟨c _ _ (R.lst k hk).1 (R.lst k hk).2, (R.lst k hk).2⟩
  ent k hk e m := (R.ent k hk e m).chg c
  con := R.con
  dyn := R.dyn
theorem Srch.chg0 {H H' : Hp} {S : List Addr} {N : Net} {vt : List Vr} {dd vc : Addr} {lsts : Nat → Addr} {ents : Nat → List Ent} (R : Srch H S N vt dd vc lsts ents) (c : Chg [] H H') : Srch H' S N vt dd vc lsts ents := R.chg (c.mono (by simp))

theorem look_range {n : Nat} (g : Nat → AV) {k : Nat} (h : k < n) : look ((List.range n).map fun (k : Nat) => ((k : Int), g k)) (k : Int) = some (g k) := by
  unfold look
  rw [List.find?_map, Option.map_map]
  have : ((List.range n).find? ((fun p : Int × AV => decide (p.1 = (k : Int))) ∘ fun (j : Nat) => ((j : Int), g j))) = some k := by
    rw [List.find?_eq_some_iff_getElem]
    refine ⟨by simp, k, by simpa using h, by simp, fun j hj => ?_⟩
    simp
    omega
  rw [this]; rfl
theorem tab_keys (vt : List Vr) : ((tab vt).map fun p => AV.int p.1) = (List.range vt.length).map fun (k : Nat) => AV.int (k : Int) := by
  unfold tab
  rw [List.map_map]
  have : ∀ (l : List Vr) (i : Nat), (l.zipIdx i).map ((fun p : Int × AV => AV.int p.1) ∘ fun p : Vr × Nat => ((p.2 : Int), AV.ref p.1.d)) = (List.range' i l.length).map fun (k : Nat) => AV.int (k : Int) := by
    intro l
    induction l with
    | nil => intro i; rfl
    | cons a r ih =>
      intro i
      rw [List.zipIdx_cons, List.map_cons, ih, List.length_cons, List.range'_succ]
      rfl
  rw [this, List.range_eq_range']

structure Key where
  z : Addr
  x : Int
  y : Int
  k : Nat
def KeyAt (H : Hp) (e : Key) : Prop := H e.z = some (.tuple [.int e.x, .int e.y, .int (e.k : Int)])

def stLst : S := .assign "lst" (.comp (.tup (.cons (.neg (.bi .len (.cons (.idx (.loc "vconstraints") (.loc "variable")) .nil))) (.cons (.bi .len (.cons (.idx (.loc "domains") (.loc "variable")) .nil)) (.cons (.loc "variable") .nil)))) "variable" (.loc "domains") .nil)
def stSort : S := .expr (.meth (.loc "lst") "sort" .nil)
def bodyFind (X : SL) : SL := .cons (.ife (.cmp .NotIn (.idx (.loc "item") (.neg (.lit (.int 1)))) (.loc "assignments")) X .nil) .nil
def stFind (X E : SL) : S := .for1 ["item"] (.loc "lst") (bodyFind X) E

section
variable {prog : Program} {w : World} {n : Nat} {H0 H : Hp}

theorem semX_comp (cp : AV → List AV → PT AV) (m : Loc) (elt it : E) (x : String) (ifs : EL) (Q : AV → Hp → Prop) (H : Hp) : (semX cp m (.comp elt x it ifs)).v Q H = (semX cp m it).v (fun v H => match itemsOf H v with
    | some xs => m ".0" = none ∧ ∀ acc, Fresh H acc → compL (fun H' => sameSrc H H' v) (fun y => (semX cp (upL m x y) elt).v) (fun y => semTs cp (upL m x y) ifs) acc (fun H' => Q (.ref acc) H') xs (upd H acc (.list []))
    | none => False) H := by
  simp only [semX, VT.of] <;> rfl
theorem semX_loc (cp : AV → List AV → PT AV) (m : Loc) (x : String) (Q : AV → Hp → Prop) (H : Hp) {v : AV} (h : m x = some v) : (semX cp m (.loc x)).v Q H = Q v H := by
  simp only [semX, VT.of, h]

def eltLst : E := .tup (.cons (.neg (.bi .len (.cons (.idx (.loc "vconstraints") (.loc "variable")) .nil))) (.cons (.bi .len (.cons (.idx (.loc "domains") (.loc "variable")) .nil)) (.cons (.loc "variable") .nil)))
theorem elt_lst {S : List Addr} {N : Net} {vt : List Vr} {dd vc : Addr} {lsts : Nat → Addr} {ents : Nat → List Ent} {σ : Sg} (R : Srch H S N vt dd vc lsts ents) (D : Doms H vt σ) {m : Loc} (s1 : m "domains" = some (.ref dd)) (s2 : m "vconstraints" = some (.ref vc)) {i : Nat} (li : i < N.n) {Q : AV → Hp → Prop}
    (q : ∀ z x y, Fresh H z → Q (.ref z) (upd H z (.tuple [.int x, .int y, .int (i : Int)]))) : (semX (CX prog w n) (upL m "variable" (.int (i : Int))) eltLst).v Q H := by
  obtain ⟨ed, hd⟩ := R.dom
  obtain ⟨ev, hv⟩ := R.vcd
  obtain ⟨v, hvi⟩ : ∃ v, vt[i]? = some v := ⟨_, List.getElem?_eq_getElem (by rw [R.len]; exact li)⟩
  have g3 := (R.lst i li).1
  have g4 := (D i v hvi).dom
  simp only [eltLst, semX, semL, VT.of, upL, if_true]
  simp only [show ("vconstraints" : String) = "variable" ↔ False from by decide, show ("domains" : String) = "variable" ↔ False from by decide, if_false, s1, s2, e_idx_dict hv, look_range _ li, e_idx_dict hd, tab_look vt i v hvi, biP, e_len_list g3, e_len_dom g4]
  exact ⟨by simp, fun z fz => q z _ _ fz⟩

/-- the list of keys -/
theorem run_lst {n : Nat} {acc : Addr} {fin : Hp → Prop} {src : AV} {elt : AV → PT AV} {test : AV → PT Bool} (hsrc : ∀ H, Chg [] H0 H → sameSrc H0 H src) (ht : ∀ y R H, R true H → test y R H)
    (he : ∀ i H Q, i < n → Chg [] H0 H → (∀ z x y, Fresh H z → Q (.ref z) (upd H z (.tuple [.int x, .int y, .int (i : Int)]))) → elt (.int (i : Int)) Q H) (hN : n ≤ 6) (fa : Fresh H0 acc)
    (q : ∀ H' (L : List Key), Chg [] H0 H' → H' acc = some (.list (L.map fun e => .ref e.z)) → (∀ e ∈ L, KeyAt H' e) → L.map (·.k) = List.range n → fin H') :
    ∀ (r i : Nat) (H : Hp) (L : List Key), i + r = n → Chg [] H0 H → H acc = some (.list (L.map fun e => .ref e.z)) → (∀ e ∈ L, KeyAt H e) → L.map (·.k) = List.range i →
      compL (fun H' => sameSrc H0 H' src) elt test acc fin ((List.range' i r).map fun (k : Nat) => AV.int (k : Int)) H := by
  intro r
  induction r with
  | zero =>
    intro i H L e c ha hL hk
    exact ⟨hsrc H c, q H L c ha hL (by rw [hk]; congr 1)⟩
  | succ r ih =>
    intro i H L e c ha hL hk
    rw [List.range'_succ, List.map_cons, compL]
    refine ⟨hsrc H c, ht _ _ _ ?_⟩
    simp only [if_true]
    have li : i < n := by omega
    refine he i H _ li c fun z x y fz => ?_
    have na : acc ≠ z := fz.ne ha
    have hlen : L.length = i := by have := congrArg List.length hk; simpa using this
    simp only [upd_old ha na]
    refine ⟨by simp [hlen]; unfold big; omega, ?_⟩
    refine ih (i + 1) _ (L ++ [⟨z, x, y, i⟩]) (by omega) (((Chg.trans c ((Chg.refl [] H).new fz))).updF fa.1) ?_ ?_ ?_
    · rw [upd_at]; simp
    · intro e he
      rcases List.mem_append.mp he with he | he
      · have h1 := hL e he
        have : e.z ≠ acc := fun e2 => by unfold KeyAt at h1; rw [e2, ha] at h1; cases h1
        exact upd_old (upd_keep fz h1) this
      · obtain rfl := List.mem_singleton.mp he
        exact upd_old upd_at na.symm
    · rw [List.map_append, hk, List.range_succ]; rfl

theorem step_find {X : SL} {m : Loc} {e : Key} {a : Addr} {asg : As} {ep : Nat} {K : Fl → Loc → Hp → Prop} (s1 : m "assignments" = some (.ref a)) (ha : H a = some (.dict asg ep)) (he : KeyAt H e)
    (q : if look asg (e.k : Int) = none then semSL (CX prog w n) X (fun fl m' H' => match fl with | .next => K .next m' H' | fl => K fl m' H') (upL m "item" (.ref e.z)) H else K .next (upL m "item" (.ref e.z)) H) :
    bindT ["item"] (.ref e.z) (fun m'' => semSL (CX prog w n) (bodyFind X) K m'') m H := by
  simp only [bindT, bodyFind]
  rw [semSL, semS]
  simp only [semX, VT.of, upL, if_true, show ("assignments" : String) = "item" ↔ False from by decide, if_false, s1, e_idx_tup he]
  have hg : ∀ Q, getP [.int e.x, .int e.y, .int (e.k : Int)] (-1) Q H = Q (.int (e.k : Int)) H := fun Q => rfl
  rw [hg]
  simp only [cmpP, e_in_dict ha, look_any]
  cases h : look asg (e.k : Int) with
  | none =>
    rw [h] at q
    simp only [if_true] at q
    simp only [Option.isSome_none, Bool.not_false, if_true, semSL]
    exact q
  | some v =>
    rw [h] at q
    simp only [reduceCtorEq, if_false] at q
    simp only [Option.isSome_some, Bool.not_true, Bool.false_eq_true, if_false, semSL]
    exact q

theorem loopFind {X : SL} {fin : ST} {lst a : Addr} {asg : As} {ep : Nat} {ys0 : List AV} {Q : Fl → Loc → Hp → Prop} (ha : H a = some (.dict asg ep)) (hl : H lst = some (.list ys0)) (m0 : Loc) :
    ∀ (ys : List AV) (m : Loc), (∀ y ∈ ys, ∃ e, y = .ref e.z ∧ KeyAt H e) → (∀ y, y ≠ "item" → m y = m0 y) → m "assignments" = some (.ref a) →
      (∀ e m', .ref e.z ∈ ys → KeyAt H e → look asg (e.k : Int) = none → (∀ y, y ≠ "item" → m' y = m0 y) → m' "item" = some (.ref e.z) → ∀ K : Fl → Loc → Hp → Prop, (∀ m'' H'', Q .next m'' H'' → K .brk m'' H'') → semSL (CX prog w n) X K m' H) →
      ((∀ e, .ref e.z ∈ ys → KeyAt H e → look asg (e.k : Int) ≠ none) → ∀ m', (∀ y, y ≠ "item" → m' y = m0 y) → fin Q m' H) →
      forL (fun H' => sameSrc H H' (.ref lst)) (fun y Q' m' H' => bindT ["item"] y (fun m'' => semSL (CX prog w n) (bodyFind X) Q' m'') m' H') fin Q ys m H := by
  intro ys
  induction ys with
  | nil =>
    intro m hk k1 s1 q1 q2
    exact ⟨by simp only [sameSrc, hl, and_self], q2 (fun e he => by simp at he) m k1⟩
  | cons y r ih =>
    intro m hk k1 s1 q1 q2
    obtain ⟨e, rfl, he⟩ := hk y (by simp)
    rw [forL]
    refine ⟨by simp only [sameSrc, hl, and_self], step_find s1 ha he ?_⟩
    have k1' : ∀ y, y ≠ "item" → upL m "item" (.ref e.z) y = m0 y := fun y ny => by simp [upL, ny, k1 y ny]
    by_cases h : look asg (e.k : Int) = none
    · rw [if_pos h]
      refine q1 e _ (by simp) he h k1' (by simp [upL]) _ fun m'' H'' z => ?_
      exact z
    · rw [if_neg h]
      refine ih _ (fun y hy => hk y (by simp [hy])) k1' (by simp [upL, s1]) (fun e' m' he' => q1 e' m' (by simp [he'])) fun h2 m' hm' => q2 (fun e' he' hk' => ?_) m' hm'
      rcases List.mem_cons.mp he' with h3 | h3
      · injection h3 with h3
        unfold KeyAt at he hk'
        rw [h3, he] at hk'
        injection hk' with hk'
        injection hk' with hk'
        simp only [List.cons.injEq, AV.int.injEq, and_true] at hk'
        rw [← hk'.2.2]; exact h
      · exact h2 e' h3 hk'

/-- the choice of a variable -/
theorem sem_pick {S : List Addr} {N : Net} {vt : List Vr} {dd vc a : Addr} {lsts : Nat → Addr} {ents : Nat → List Ent} {σ : Sg} {X E rest : SL} {asg : As} {ep : Nat} {m : Loc} {Q : Fl → Loc → Hp → Prop} (R : Srch H S N vt dd vc lsts ents) (D : Doms H vt σ) (hN : N.n ≤ 6)
    (s0 : m ".0" = none) (s1 : m "domains" = some (.ref dd)) (s2 : m "vconstraints" = some (.ref vc)) (s3 : m "assignments" = some (.ref a)) (ha : H a = some (.dict asg ep))
    (q1 : ∀ k m' H', k < N.n → look asg (k : Int) = none → (∀ y, y ≠ "lst" → y ≠ "item" → m' y = m y) → Chg [] H H' → (∃ e, KeyAt H' e ∧ e.k = k ∧ m' "item" = some (.ref e.z)) → ∀ K : Fl → Loc → Hp → Prop, (∀ m'' H'', semSL (CX prog w n) rest Q m'' H'' → K .brk m'' H'') → semSL (CX prog w n) X K m' H')
    (q2 : (∀ k, k < N.n → look asg (k : Int) ≠ none) → ∀ m' H', (∀ y, y ≠ "lst" → y ≠ "item" → m' y = m y) → Chg [] H H' → semSL (CX prog w n) E (fun fl m' H' => match fl with | .next => semSL (CX prog w n) rest Q m' H' | fl => Q fl m' H') m' H') :
    semSL (CX prog w n) (.cons stLst (.cons stSort (.cons (stFind X E) rest))) Q m H := by
  obtain ⟨ed, hd⟩ := R.dom
  rw [semSL, stLst, semS]
  dsimp only
  rw [semX_comp, semX_loc _ _ _ _ _ s1]
  simp only [e_items_dict hd]
  refine ⟨s0, fun acc fa => ?_⟩
  rw [tab_keys, R.len, List.range_eq_range']
  have c0 : Chg [] H (upd H acc (.list [])) := (Chg.refl [] H).new fa
  have hacc0 := c0 dd _ hd (by simp)
  refine run_lst (H0 := H) (fun H' c => by simp only [sameSrc, hd, c _ _ hd (by simp), and_self]) (fun y R H h => h) (fun i H' Q li c q => elt_lst (R.chg0 c) (D.chg0 c) s1 s2 li q) hN fa (fun H1 L c1 hl hL hk => ?_) N.n 0 _ [] (by omega) c0 upd_at (by simp) (by simp)
  rw [semSL, stSort, semS]
  simp only [semX, semL, VT.of, upL, if_true, e_meth_list hl (by decide : "sort" ≠ "preProcess"), listMeth]
  refine cx_sort ?_
  have hlen : L.length = N.n := by have := congrArg List.length hk; simpa using this
  unfold sortP
  simp only [hl]
  refine ⟨by simp; omega, fun x hx => ?_, fun ys hp => ?_⟩
  · obtain ⟨e, he, rfl⟩ := List.mem_map.mp hx
    have := hL e he
    unfold KeyAt at this
    simp [keyOf, this]
  have nacc : ∀ e ∈ L, e.z ≠ acc := fun e he e2 => by have := hL e he; unfold KeyAt at this; rw [e2, hl] at this; cases this
  have hL' : ∀ e ∈ L, KeyAt (upd H1 acc (.list ys)) e := fun e he => upd_old (hL e he) (nacc e he)
  have c2 : Chg [] H (upd H1 acc (.list ys)) := c1.updF fa.1
  have hl2 : (upd H1 acc (.list ys)) acc = some (.list ys) := upd_at
  have ha2 := c2 _ _ ha (by simp)
  generalize upd H1 acc (.list ys) = H2 at hL' c2 hl2 ha2
  rw [semSL, stFind, semS]
  simp only [semX, VT.of, upL, if_true, e_items_list hl2]
  have mem : ∀ e, .ref e.z ∈ ys → KeyAt H2 e → ∃ e' ∈ L, e'.z = e.z ∧ e'.k = e.k := fun e he hk2 => by
    obtain ⟨e', h1, h2⟩ := List.mem_map.mp (hp.subset he)
    injection h2 with h2
    have h3 := hL' e' h1
    unfold KeyAt at h3 hk2
    rw [h2, hk2] at h3
    injection h3 with h3
    injection h3 with h3
    simp only [List.cons.injEq, AV.int.injEq, and_true] at h3
    exact ⟨e', h1, h2, by omega⟩
  have lt : ∀ e ∈ L, e.k < N.n := fun e he => by
    have : e.k ∈ L.map (·.k) := List.mem_map.mpr ⟨e, he, rfl⟩
    rw [hk] at this
    simpa using this
  refine loopFind (prog := prog) (w := w) (n := n) ha2 hl2 (upL m "lst" (.ref acc)) ys _ (fun y hy => ?_) (fun y _ => rfl) (by simp [upL, s3]) (fun e m' he hk2 hn hm hi K hK => ?_) (fun h m' hm => ?_)
  · obtain ⟨e', h1, h2⟩ := List.mem_map.mp (hp.subset hy)
    exact ⟨e', h2.symm, hL' e' h1⟩
  · obtain ⟨e', h1, h2, h3⟩ := mem e he hk2
    exact q1 e.k m' H2 (by rw [← h3]; exact lt e' h1) hn (fun y n1 n2 => by rw [hm y n2]; simp [upL, n1]) c2 ⟨e, hk2, rfl, hi⟩ K hK
  · refine q2 (fun k hk3 => ?_) m' H2 (fun y n1 n2 => by rw [hm y n2]; simp [upL, n1]) c2
    have : k ∈ L.map (·.k) := by rw [hk]; simpa using hk3
    obtain ⟨e, h1, rfl⟩ := List.mem_map.mp this
    exact h e (hp.symm.subset (List.mem_map.mpr ⟨e, h1, rfl⟩)) (hL' e h1)
end
end Csp

namespace Csp
open PySem PySem.W PySem.Calls PyProof.Rows PySem.SeqAt Builtin Builtin.ObjectAttr

def stPd (c : E) : S := .ife (.loc "forwardcheck") (.cons (.assign "pushdomains" (.comp (.idx (.loc "domains") (.loc "x")) "x" (.loc "domains") (.cons c .nil))) .nil) (.cons (.assign "pushdomains" (.lit .none)) .nil)

section
variable {prog : Program} {w : World} {n : Nat} {H0 H : Hp}

/-- the list of domains to push -/
theorem run_pd {vt : List Vr} {acc : Addr} {fin : Hp → Prop} {src : AV} {elt : AV → PT AV} {test : AV → PT Bool} {b : Nat → Bool} {n : Nat} (hsrc : ∀ H, Chg [] H0 H → sameSrc H0 H src) (ht : ∀ i R H, i < n → Chg [] H0 H → R (b i) H → test (.int (i : Int)) R H)
    (he : ∀ i H Q, i < n → Chg [] H0 H → Q (.ref (vd vt i)) H → elt (.int (i : Int)) Q H) (hN : n ≤ 6) (fa : Fresh H0 acc)
    (q : ∀ H', Chg [] H0 H' → H' acc = some (.list (((List.range n).filter b).map fun k => .ref (vd vt k))) → fin H') :
    ∀ (r i : Nat) (H : Hp), i + r = n → Chg [] H0 H → H acc = some (.list (((List.range i).filter b).map fun k => .ref (vd vt k))) →
      compL (fun H' => sameSrc H0 H' src) elt test acc fin ((List.range' i r).map fun (k : Nat) => AV.int (k : Int)) H := by
  intro r
  induction r with
  | zero =>
    intro i H e c ha
    refine ⟨hsrc H c, q H c ?_⟩
    rw [ha]
    have : i = n := by omega
    rw [this]
  | succ r ih =>
    intro i H e c ha
    rw [List.range'_succ, List.map_cons, compL]
    have li : i < n := by omega
    refine ⟨hsrc H c, ht _ _ _ li c ?_⟩
    have hr : (List.range (i + 1)).filter b = (List.range i).filter b ++ if b i then [i] else [] := by
      rw [List.range_succ, List.filter_append]
      cases h : b i <;> simp [h]
    cases hb : b i
    · simp only [Bool.false_eq_true, if_false]
      refine ih (i + 1) H (by omega) c ?_
      rw [hr, hb]; simpa using ha
    · simp only [if_true]
      refine he i H _ li c ?_
      simp only [ha]
      have hl := List.length_filter_le b (List.range i)
      simp only [List.length_range] at hl
      refine ⟨by simp only [List.length_map]; unfold big; omega, ?_⟩
      refine ih (i + 1) _ (by omega) (c.updF fa.1) ?_
      rw [upd_at, hr, hb]; simp

theorem sem_pd {S : List Addr} {N : Net} {vt : List Vr} {dd vc : Addr} {lsts : Nat → Addr} {ents : Nat → List Ent} {c : E} {m : Loc} {fb : Bool} {b : Nat → Bool} {Q : Fl → Loc → Hp → Prop} (R : Srch H S N vt dd vc lsts ents) (hS : ∀ a ∈ S, H a ≠ none) (hN : N.n ≤ 6)
    (s0 : m ".0" = none) (s1 : m "domains" = some (.ref dd)) (s2 : m "forwardcheck" = some (.bool fb))
    (ht : ∀ i R H', i < N.n → Chg [] H H' → R (b i) H' → (semX (CX prog w n) (upL m "x" (.int (i : Int))) c).t R H')
    (q : ∀ m' H' pd, (∀ y, y ≠ "pushdomains" → m' y = m y) → Chg [] H H' → m' "pushdomains" = some pd → PdAt H' S pd vt (if fb then (List.range N.n).filter b else []) → Q .next m' H') :
    semS (CX prog w n) (stPd c) Q m H := by
  obtain ⟨ed, hd⟩ := R.dom
  rw [stPd, semS]
  simp only [semX, VT.of, s2, truthP]
  cases fb
  · simp only [Bool.false_eq_true, if_false, semSL, semS, semX, VT.of]
    exact q _ H .none (fun y ny => by simp [upL, ny]) (Chg.refl _ _) (by simp [upL]) (.inl ⟨rfl, rfl⟩)
  · simp only [if_true] at q ⊢
    rw [semSL, semS]
    dsimp only
    rw [semX_comp, semX_loc _ _ _ _ _ s1]
    simp only [e_items_dict hd]
    refine ⟨s0, fun acc fa => ?_⟩
    rw [tab_keys, R.len, List.range_eq_range']
    have c0 : Chg [] H (upd H acc (.list [])) := (Chg.refl [] H).new fa
    refine run_pd (H0 := H) (vt := vt) (b := b) (n := N.n) (fun H' c => by simp only [sameSrc, hd, c _ _ hd (by simp), and_self]) (fun i R' H' li c' z => ?_) (fun i H' Q' li c' z => ?_) hN fa (fun H1 c1 hl => ?_) N.n 0 _ (by omega) c0 upd_at
    · simp only [semTs]
      refine ht i _ H' li c' ?_
      cases hb : b i
      · rw [hb] at z; simpa using z
      · rw [hb] at z; simpa using z
    · have g := c' _ _ hd (by simp)
      obtain ⟨v, hvi⟩ : ∃ v, vt[i]? = some v := ⟨_, List.getElem?_eq_getElem (by rw [R.len]; exact li)⟩
      simp only [semX, VT.of, upL, if_true, show ("domains" : String) = "x" ↔ False from by decide, if_false, s1, e_idx_dict g, tab_look vt i v hvi]
      rw [vd_of hvi] at z
      exact z
    · rw [semSL]
      exact q _ H1 (.ref acc) (fun y ny => by simp [upL, ny]) c1 (by simp [upL]) (.inr ⟨acc, rfl, fun m => hS _ m fa.1, hl⟩)
end
end Csp

namespace Csp
open PySem PySem.W PySem.Calls PyProof.Rows PySem.SeqAt Builtin Builtin.ObjectAttr

/-! dicts with one key more -/
theorem look_snoc (asg : As) (v : Int) (y : AV) (h : look asg v = none) (j : Int) : look (asg ++ [(v, y)]) j = if j = v then some y else look asg j := by
  unfold look at h ⊢
  rw [List.find?_append]
  by_cases e : j = v
  · subst e
    rw [if_pos rfl]
    have : asg.find? (fun p => decide (p.1 = j)) = none := by
      cases hh : asg.find? (fun p => decide (p.1 = j)) with
      | none => rfl
      | some p => rw [hh] at h; cases h
    rw [this]; simp
  · rw [if_neg e]
    have : [(v, y)].find? (fun p : Int × AV => decide (p.1 = j)) = none := by
      have : ¬ v = j := fun q => e q.symm
      simp [this]
    rw [this]; simp
theorem no_key {asg : As} {v : Int} (h : look asg v = none) : ∀ p ∈ asg, p.1 ≠ v := by
  intro p hp e
  unfold look at h
  have : asg.find? (fun p => decide (p.1 = v)) = none := by
    cases hh : asg.find? (fun p => decide (p.1 = v)) with
    | none => rfl
    | some q => rw [hh] at h; cases h
  rw [List.find?_eq_none] at this
  exact this p hp (by simpa using e)
theorem store_new {asg : As} {v : Int} (h : look asg v = none) (y : AV) : store asg v y = asg ++ [(v, y)] := by
  unfold store
  rw [if_neg]
  rw [Bool.not_eq_true, List.any_eq_false]
  intro p hp
  simpa using no_key h p hp
theorem store_again {asg : As} {v : Int} (h : look asg v = none) (z y : AV) : store (asg ++ [(v, z)]) v y = asg ++ [(v, y)] := by
  unfold store
  rw [if_pos (by simp)]
  rw [List.map_append]
  congr 1
  · conv => rhs; rw [← List.map_id asg]
    refine List.map_congr_left fun p hp => ?_
    rw [if_neg (no_key h p hp)]; rfl
  · simp
theorem drop_snoc {asg : As} {v : Int} (h : look asg v = none) (y : AV) : drop (asg ++ [(v, y)]) v = asg := by
  unfold drop
  rw [List.filter_append]
  have h1 : asg.filter (fun p => decide (p.1 ≠ v)) = asg := List.filter_eq_self.mpr fun p hp => by simpa using no_key h p hp
  rw [h1]; simp
theorem more_snoc {asg : As} {v : Nat} (h : look asg (v : Int) = none) (x : Int) : More asg (asg ++ [((v : Int), .int x)]) v x := fun j => look_snoc asg v _ h j

/-- the domains that a choice of v pushes -/
def pdOf (N : Net) (asg : As) (v : Nat) (fb : Bool) : List Nat := if fb then (List.range N.n).filter (fun k => (look asg (k : Int)).isNone && k != v) else []
theorem pd_mem {N : Net} {asg : As} {v : Nat} {fb : Bool} {k : Nat} (h : k ∈ pdOf N asg v fb) : k < N.n ∧ look asg (k : Int) = none ∧ k ≠ v := by
  unfold pdOf at h
  cases fb
  · simp at h
  · simp only [if_true, List.mem_filter, List.mem_range, Bool.and_eq_true, Option.isNone_iff_eq_none, bne_iff_ne] at h
    exact ⟨h.1, h.2.1, h.2.2⟩
theorem pd_nodup {N : Net} {asg : As} {v : Nat} {fb : Bool} : (pdOf N asg v fb).Nodup := by
  unfold pdOf
  cases fb
  · simp
  · exact List.Nodup.sublist List.filter_sublist List.nodup_range
theorem pd_flag {N : Net} {asg : As} {v : Nat} {fb : Bool} {k : Nat} (hk : k < N.n) (hn : look asg (k : Int) = none) (hv : k ≠ v) (h : k ∉ pdOf N asg v fb) : (!(pdOf N asg v fb).isEmpty) = false := by
  cases fb
  · rfl
  · exfalso
    apply h
    unfold pdOf
    simp [hk, hn, hv]

/-- one turn's domains -/
theorem turn_rel {N : Net} {asg asg' : As} {v : Nat} {x : Int} {fb : Bool} {σ σ4 σ5 : Sg} (cs : List Con) (m : More asg asg' v x) (ok : ∀ k, k < N.n → okS (σ k))
    (h4 : σ4 = (conAll cs asg' (!(pdOf N asg v fb).isEmpty) (mapS pushS (pdOf N asg v fb) σ)).2) (h5 : ∀ k, k < N.n → (look asg' (k : Int) = none → Eqv (σ4 k) (σ5 k)) ∧ (look asg' (k : Int) ≠ none → σ5 k = σ4 k)) :
    (∀ k ∈ pdOf N asg v fb, okS (σ5 k) ∧ ∃ s0, Abv s0 (σ5 k)) ∧
    ∀ k, k < N.n → (look asg (k : Int) = none → k ≠ v → Eqv (σ k) (mapS popS (pdOf N asg v fb) σ5 k)) ∧ ((look asg (k : Int) ≠ none ∨ k = v) → mapS popS (pdOf N asg v fb) σ5 k = σ k) := by
  have ab : ∀ k ∈ pdOf N asg v fb, Abv (σ k) (σ5 k) := fun k hk => by
    obtain ⟨a, b, c⟩ := pd_mem hk
    have h1 := (all_hid asg' (!(pdOf N asg v fb).isEmpty) cs (mapS pushS (pdOf N asg v fb) σ) k).1
    rw [mapS_in _ _ _ _ pd_nodup hk, ← h4] at h1
    exact ((abv_push (σ k)).hid h1).eqv ((h5 k a).1 (m.no.mpr ⟨c, b⟩))
  refine ⟨fun k hk => ⟨(ab k hk).okS (ok k (pd_mem hk).1), _, ab k hk⟩, fun k hk => ⟨fun hn hv => ?_, fun hn => ?_⟩⟩
  · by_cases hm : k ∈ pdOf N asg v fb
    · rw [mapS_in _ _ _ _ pd_nodup hm]
      exact (ab k hm).pop.1
    · rw [mapS_out _ _ _ _ hm]
      have h1 := (all_hid asg' (!(pdOf N asg v fb).isEmpty) cs (mapS pushS (pdOf N asg v fb) σ) k).2.2.1 (pd_flag hk hn hv hm)
      rw [mapS_out _ _ _ _ hm, ← h4] at h1
      have h2 := (h5 k hk).1 (m.no.mpr ⟨hv, hn⟩)
      rw [h1] at h2
      exact h2
  · have hm : k ∉ pdOf N asg v fb := fun h => by
      obtain ⟨a, b, c⟩ := pd_mem h
      rcases hn with h | h
      · exact h b
      · exact c h
    have ha : look asg' (k : Int) ≠ none := fun e => by
      obtain ⟨a, b⟩ := m.no.mp e
      rcases hn with h | h
      · exact h b
      · exact a h
    rw [mapS_out _ _ _ _ hm, (h5 k hk).2 ha]
    have h1 := (all_hid asg' (!(pdOf N asg v fb).isEmpty) cs (mapS pushS (pdOf N asg v fb) σ) k).2.1 ha
    rw [mapS_out _ _ _ _ hm, ← h4] at h1
    exact h1

theorem push_vis {N : Net} {asg : As} {v : Nat} {fb : Bool} (σ : Sg) (k : Nat) : (mapS pushS (pdOf N asg v fb) σ k).vis = (σ k).vis ∧ (mapS pushS (pdOf N asg v fb) σ k).hid = (σ k).hid ∧ (mapS pushS (pdOf N asg v fb) σ k).sts.length ≤ (σ k).sts.length + 1 := by
  by_cases hm : k ∈ pdOf N asg v fb
  · rw [mapS_in _ _ _ _ pd_nodup hm]
    simp [pushS]
  · rw [mapS_out _ _ _ _ hm]
    simp
end Csp

namespace Csp
open PySem PySem.W PySem.Calls PyProof.Rows PySem.SeqAt Builtin Builtin.ObjectAttr

def elseRec : SL := .cons (.expr (.meth (.loc "self") "recursiveBacktracking" (.cons (.loc "solutions") (.cons (.loc "domains") (.cons (.loc "vconstraints") (.cons (.loc "assignments") (.cons (.loc "single") .nil))))))) (.cons (.ife (.and2 (.loc "solutions") (.loc "single")) (.cons (.ret (.loc "solutions")) .nil) .nil) .nil)
def bodyVal : SL := .cons (.assignIdx (.loc "assignments") (.loc "variable") (.loc "value")) (.cons (stPP "pushState") (.cons (.for1 ["constraint", "variables"] (.idx (.loc "vconstraints") (.loc "variable")) bodyCons elseRec) (.cons (stPP "popState") .nil)))
def endRec : SL := .cons (.expr (.meth (.loc "solutions") "append" (.cons (.meth (.loc "assignments") "copy" .nil) .nil))) (.cons (.ret (.loc "solutions")) .nil)
theorem b208_eq : b208 = .cons stLst (.cons stSort (.cons (stFind (.cons .brk .nil) endRec) (.cons (.assign "variable" (.idx (.loc "item") (.neg (.lit (.int 1))))) (.cons (.assignIdx (.loc "assignments") (.loc "variable") (.lit .none)) (.cons (.assign "forwardcheck" (.attr (.loc "self") "_forwardcheck"))
    (.cons (stPd (.cmp .NotIn (.loc "x") (.loc "assignments"))) (.cons (.for1 ["value"] (.idx (.loc "domains") (.loc "variable")) bodyVal .nil) (.cons (.delIdx (.loc "assignments") (.loc "variable")) (.cons (.ret (.loc "solutions")) .nil))))))))) := rfl

/-- the addresses that a search may change -/
def Sx (vt : List Vr) (a sol : Addr) : List Addr := dynOf vt ++ [a, sol]

/-- what stays as it is in a search -/
structure RecS (vt : List Vr) (slf sdx sol a : Addr) : Prop where
  ns : slf ∉ Sx vt a sol
  nx : sdx ∉ Sx vt a sol
  n3 : slf ≠ 347
  na : a ∉ dynOf vt
  nl : sol ∉ dynOf vt
  ne : a ≠ sol

theorem Doms.other {H : Hp} {vt : List Vr} {σ : Sg} {a : Addr} {o : AO} (D : Doms H vt σ) (ha : a ∉ dynOf vt) (hn : ∀ es, H a ≠ some (.ns es)) : Doms (upd H a o) vt σ := fun i v hv => by
  obtain ⟨d1, d2, d3⟩ := dyn_mem hv
  have V := D i v hv
  exact DomAt.upd V (by rintro rfl; exact ha d1) (by rintro rfl; exact hn _ V.ns) (by rintro rfl; exact ha d2) (by rintro rfl; exact ha d3)
theorem Doms.known {H : Hp} {vt : List Vr} {σ : Sg} (D : Doms H vt σ) : ∀ a ∈ dynOf vt, H a ≠ none := by
  intro a ha
  unfold dynOf at ha
  rw [List.mem_flatMap] at ha
  obtain ⟨v, hv, hm⟩ := ha
  obtain ⟨i, hi, rfl⟩ := List.getElem_of_mem hv
  have V := D i _ (List.getElem?_eq_getElem hi)
  simp only [List.mem_cons, List.not_mem_nil, or_false] at hm
  rcases hm with rfl | rfl | rfl
  · rw [V.dom]; simp
  · rw [V.hid]; simp
  · rw [V.sts]; simp

section
variable (prog : Program) (w : World) (N : Net) (vt : List Vr) (dd vc : Addr) (lsts : Nat → Addr) (ents : Nat → List Ent) (slf sdx sol a : Addr) (fb : Bool)

/-- the contract of the recursion, for r unassigned variables at most -/
def RecOK (r : Nat) : Prop := ∀ (U : List Nat) (asg : As) (σ : Sg) (H : Hp) (ep : Nat) (Q : AV → Hp → Prop), U.length ≤ r → (∀ k, k < N.n → look asg (k : Int) = none → k ∈ U) → asg.length + r ≤ 100 →
  Srch H (Sx vt a sol) N vt dd vc lsts ents → H slf = some (.inst 225 sdx) → H sdx = some (.ns [("_forwardcheck", .bool fb)]) → H sol = some (.list []) → H a = some (.dict asg ep) → Good N asg σ → Doms H vt σ → (∀ k, k < N.n → (σ k).sts.length + r ≤ 100) →
  (∀ H' σ' ep', Chg (Sx vt a sol) H H' → H' sol = some (.list []) → H' a = some (.dict asg ep') → Doms H' vt σ' → (∀ k, k < N.n → (look asg (k : Int) = none → Eqv (σ k) (σ' k)) ∧ (look asg (k : Int) ≠ none → σ' k = σ k)) → (∀ f, N.Sol f → Ext asg f → False) → Q (.ref sol) H') →
  (∀ H' b f asg' ep', Chg (Sx vt a sol) H H' → H' sol = some (.list [.ref b]) → H' b = some (.dict asg' ep') → N.Sol f → (∀ k, k < N.n → look asg' (k : Int) = some (.int (f k))) → Q (.ref sol) H') →
  CX prog w (r + 4) (.ref 208) [.ref slf, .ref sol, .ref dd, .ref vc, .ref a, .bool true] Q H
end

/-- the names of the recursion's frame in its loop over values -/
structure LocV (m : Loc) (slf sol dd vc a : Addr) (v : Nat) (pd : AV) : Prop where
  l1 : m "self" = some (.ref slf)
  l2 : m "solutions" = some (.ref sol)
  l3 : m "domains" = some (.ref dd)
  l4 : m "vconstraints" = some (.ref vc)
  l5 : m "assignments" = some (.ref a)
  l6 : m "single" = some (.bool true)
  l7 : m "variable" = some (.int (v : Int))
  l8 : m "pushdomains" = some pd
theorem LocV.of {m m' : Loc} {slf sol dd vc a : Addr} {v : Nat} {pd : AV} (L : LocV m slf sol dd vc a v pd) (h : ∀ y, y ≠ "value" → y ≠ "domain" → y ≠ "constraint" → y ≠ "variables" → m' y = m y) : LocV m' slf sol dd vc a v pd :=
  ⟨(h _ (by decide) (by decide) (by decide) (by decide)).trans L.l1, (h _ (by decide) (by decide) (by decide) (by decide)).trans L.l2, (h _ (by decide) (by decide) (by decide) (by decide)).trans L.l3, (h _ (by decide) (by decide) (by decide) (by decide)).trans L.l4,
    (h _ (by decide) (by decide) (by decide) (by decide)).trans L.l5, (h _ (by decide) (by decide) (by decide) (by decide)).trans L.l6, (h _ (by decide) (by decide) (by decide) (by decide)).trans L.l7, (h _ (by decide) (by decide) (by decide) (by decide)).trans L.l8⟩

section
variable {prog : Program} {w : World} {N : Net} {vt : List Vr} {dd vc : Addr} {lsts : Nat → Addr} {ents : Nat → List Ent} {slf sdx sol a : Addr} {fb : Bool} {r : Nat} {H0 H : Hp}

theorem sx_dyn {x : Addr} (h : x ∈ dynOf vt) : x ∈ Sx vt a sol := List.mem_append_left _ h
theorem sx_a : a ∈ Sx vt a sol := List.mem_append_right _ (by simp)
theorem sx_sol : sol ∈ Sx vt a sol := List.mem_append_right _ (by simp)

theorem turn208 (hN : N.ok) (hr : ∀ k, k < N.n → ∀ c ∈ N.vcs k, ∀ j ∈ c.ks, j < vt.length) (Z : RecS vt slf sdx sol a) (IH : RecOK prog w N vt dd vc lsts ents slf sdx sol a fb r) {U : List Nat} {asg : As} {σ : Sg} {ep v : Nat} {y pd : AV} {x : Int} {m : Loc} {K : Fl → Loc → Hp → Prop}
    (hv : v < N.n) (hn : look asg (v : Int) = none) (hU : U.length ≤ r) (hUm : ∀ k, k < N.n → look asg (k : Int) = none → k ≠ v → k ∈ U) (hl : asg.length + (r + 1) ≤ 100) (R : Srch H (Sx vt a sol) N vt dd vc lsts ents)
    (g1 : H slf = some (.inst 225 sdx)) (g2 : H sdx = some (.ns [("_forwardcheck", .bool fb)])) (g3 : H sol = some (.list [])) (g4 : H a = some (.dict (asg ++ [((v : Int), y)]) ep)) (G : Good N asg σ) (D : Doms H vt σ) (hs : ∀ k, k < N.n → (σ k).sts.length + (r + 1) ≤ 100)
    (hx : x ∈ (σ v).vis) (P : PdAt H (Sx vt a sol) pd vt (pdOf N asg v fb)) (L : LocV m slf sol dd vc a v pd)
    (qn : ∀ m' H' σ' ep', (∀ y, y ≠ "value" → y ≠ "domain" → y ≠ "constraint" → y ≠ "variables" → m' y = m y) → Chg (Sx vt a sol) H H' → H' sol = some (.list []) → H' a = some (.dict (asg ++ [((v : Int), .int x)]) ep') → Doms H' vt σ' →
      (∀ k, k < N.n → (look asg (k : Int) = none → k ≠ v → Eqv (σ k) (σ' k)) ∧ ((look asg (k : Int) ≠ none ∨ k = v) → σ' k = σ k)) → (∀ f, N.Sol f → Ext asg f → f v = x → False) → K .next m' H')
    (qs : ∀ m' H' b f asg' ep', Chg (Sx vt a sol) H H' → H' sol = some (.list [.ref b]) → H' b = some (.dict asg' ep') → N.Sol f → (∀ k, k < N.n → look asg' (k : Int) = some (.int (f k))) → K (.ret (.ref sol)) m' H') :
    bindT ["value"] (.int x) (fun m'' => semSL (CX prog w (r + 4)) bodyVal K m'') m H := by
  have M := more_snoc hn x
  simp only [bindT]
  have L1 : LocV (upL m "value" (.int x)) slf sol dd vc a v pd := L.of fun y n1 _ _ _ => by simp [upL, n1]
  have L1v : (upL m "value" (.int x)) "value" = some (.int x) := by simp [upL]
  have k1 : ∀ y, y ≠ "value" → y ≠ "domain" → y ≠ "constraint" → y ≠ "variables" → (upL m "value" (.int x)) y = m y := fun y n1 _ _ _ => by simp [upL, n1]
  generalize upL m "value" (.int x) = m1 at L1 L1v k1
  rw [bodyVal, semSL, semS]
  simp only [semX, VT.of, L1v, L1.l5, L1.l7, e_setItem g4]
  refine ⟨by simp; unfold big; omega, fun ep1 => ?_⟩
  rw [store_again hn]
  have c1 : Chg (Sx vt a sol) H (upd H a (.dict (asg ++ [((v : Int), .int x)]) ep1)) := (Chg.refl _ _).upd sx_a
  have D1 := D.other (o := .dict (asg ++ [((v : Int), .int x)]) ep1) Z.na (by simp [g4])
  have g3' : (upd H a (.dict (asg ++ [((v : Int), .int x)]) ep1)) sol = some (.list []) := upd_old g3 Z.ne.symm
  have g4' : (upd H a (.dict (asg ++ [((v : Int), .int x)]) ep1)) a = some (.dict (asg ++ [((v : Int), .int x)]) ep1) := upd_at
  generalize upd H a (.dict (asg ++ [((v : Int), .int x)]) ep1) = H1 at c1 D1 g3' g4'
  generalize hasg' : asg ++ [((v : Int), AV.int x)] = asg' at *
  rw [semSL]
  have pdl : ∀ k ∈ pdOf N asg v fb, k < vt.length := fun k hk => by rw [R.len]; exact (pd_mem hk).1
  refine sem_push R.ap (by omega) L1.l8 ((P.chg c1).sub fun _ => sx_dyn) pdl D1 pd_nodup (fun k hk => by have := hs k (pd_mem hk).1; omega) fun m2 H2 e2 c2 D2 => ?_
  have c2' : Chg (Sx vt a sol) H H2 := c1.trans (c2.mono fun _ => sx_dyn)
  have L2 : LocV m2 slf sol dd vc a v pd := L1.of fun y _ n2 _ _ => e2 y n2
  have R2 := R.chg c2'
  obtain ⟨ed, hd2⟩ := R2.dom
  obtain ⟨ev, hv2⟩ := R2.vcd
  have g42 := c2 _ _ g4' Z.na
  have g32 := c2 _ _ g3' Z.nl
  dsimp only
  rw [semSL, semS]
  simp only [semX, VT.of, L2.l4, L2.l7, e_idx_dict hv2, look_range _ hv, e_items_list (R2.lst v hv).1]
  have nlst : lsts v ∉ dynOf vt := fun h => (R2.lst v hv).2 (sx_dyn h)
  have good := good_step hN (fb := !(pdOf N asg v fb).isEmpty) G hv hn hx M (fun k => (push_vis (N := N) (asg := asg) (v := v) (fb := fb) σ k).1) (fun k => (push_vis (N := N) (asg := asg) (v := v) (fb := fb) σ k).2.1)
  have ints' : ∀ k u, look asg' k = some u → ∃ i, u = .int i := fun k u e => by
    rw [M k] at e
    by_cases h : k = (v : Int)
    · rw [if_pos h] at e; exact ⟨x, (Option.some.inj e).symm⟩
    · rw [if_neg h] at e; exact G.ints k u e
  refine loopCons (prog := prog) (w := w) (n := r + 4) (H0 := H2) (src := .ref (lsts v)) (fc := pd) (fb := !(pdOf N asg v fb).isEmpty) (fun H' c => by simp only [sameSrc, (R2.lst v hv).1, c _ _ (R2.lst v hv).1 nlst, and_self]) g42 hd2 Z.na (fun h => R2.nd (sx_dyn h)) R.ap ints'
    (fun R' H' c h => ((P.chg (c2'.trans (c.mono fun _ => sx_dyn)))).truth h) (by omega) m2 (ents v) m2 H2 _ L2.l3 L2.l5 L2.l8 (fun _ _ _ => rfl) (fun e he => ⟨(R2.ent v hv e he).sub fun _ => sx_dyn, fun k hk => hr v hv e.con (by rw [← R.con v hv]; exact List.mem_map.mpr ⟨e, he, rfl⟩) k hk⟩) (Chg.refl _ _) D2
    (fun i hi => ?_) (fun m3 H3 e3 c3 D3 => ?_)
  · have := G.ok i (by rw [← R.len]; exact hi)
    unfold okS at *
    rw [(push_vis (N := N) (asg := asg) (v := v) (fb := fb) σ i).1, (push_vis (N := N) (asg := asg) (v := v) (fb := fb) σ i).2.1]
    exact this
  rw [R.con v hv] at D3 ⊢
  generalize hσ4 : (conAll (N.vcs v) asg' (!(pdOf N asg v fb).isEmpty) (mapS pushS (pdOf N asg v fb) σ)) = p at D3 good ⊢
  have c3' : Chg (Sx vt a sol) H H3 := c2'.trans (c3.mono fun _ => sx_dyn)
  have L3 : LocV m3 slf sol dd vc a v pd := L2.of fun y _ _ n3 n4 => e3 y n3 n4
  have k3 : ∀ y, y ≠ "value" → y ≠ "domain" → y ≠ "constraint" → y ≠ "variables" → m3 y = m y := fun y n1 n2 n3 n4 => (e3 y n3 n4).trans ((e2 y n2).trans (k1 y n1 n2 n3 n4))
  have g33 := c3 _ _ g32 Z.nl
  have g43 := c3 _ _ g42 Z.na
  -- the end of a turn that found nothing
  have fin : ∀ H5 ep5 σ5, Chg (Sx vt a sol) H H5 → H5 sol = some (.list []) → H5 a = some (.dict asg' ep5) → Doms H5 vt σ5 → (∀ k, k < N.n → (look asg' (k : Int) = none → Eqv (p.2 k) (σ5 k)) ∧ (look asg' (k : Int) ≠ none → σ5 k = p.2 k)) → (∀ f, N.Sol f → Ext asg' f → False) →
      semSL (CX prog w (r + 4)) (.cons (stPP "popState") .nil) K m3 H5 := by
    intro H5 ep5 σ5 c5 h1 h2 D5 rel no
    obtain ⟨t1, t2⟩ := turn_rel (N := N) (σ4 := p.2) (N.vcs v) M G.ok (by rw [← hσ4]) rel
    rw [semSL]
    refine sem_pop R.ap (by omega) L3.l8 ((P.chg c5).sub fun _ => sx_dyn) pdl D5 pd_nodup t1 fun m6 H6 e6 c6 D6 => ?_
    simp only [semSL]
    exact qn m6 H6 _ ep5 (fun y n1 n2 n3 n4 => (e6 y n2).trans (k3 y n1 n2 n3 n4)) (c5.trans (c6.mono fun _ => sx_dyn)) (c6 _ _ h1 Z.nl) (c6 _ _ h2 Z.na) D6 t2 fun f hf E hfx => no f hf ((M.ext hn).mpr ⟨E, hfx⟩)
  by_cases hp : p.1 = true
  · rw [if_pos hp]
    obtain ⟨q1, q2⟩ := p
    have G' := good.1 hp
    rw [elseRec, semSL, semS]
    have g13 := c3' _ _ g1 Z.ns
    have g23 := c3' _ _ g2 Z.nx
    have mm : methOf H3 (.ref slf) "recursiveBacktracking" = some (.py 208) := by
      rw [e_meth_inst g13 g23 Z.n3]; rfl
    simp only [semX, semL, VT.of, L3.l1, L3.l2, L3.l3, L3.l4, L3.l5, L3.l6, mm]
    refine IH U asg' q2 H3 ep1 _ hU (fun k hk e => hUm k hk (M.no.mp e).2 (M.no.mp e).1) (by rw [← hasg']; simp; omega) (R.chg c3') g13 g23 g33 g43 G' D3 (fun k hk => ?_) (fun H5 σ5 ep5 c5 h1 h2 D5 rel no => ?_) (fun H5 b f as5 ep5 c5 h1 h2 hf hl => ?_)
    · have h1 := (all_hid asg' (!(pdOf N asg v fb).isEmpty) (N.vcs v) (mapS pushS (pdOf N asg v fb) σ) k).1
      rw [hσ4] at h1
      obtain ⟨_, _, _, h2⟩ := h1
      have h3 := (push_vis (N := N) (asg := asg) (v := v) (fb := fb) σ k).2.2
      rw [h2]
      have := hs k hk
      omega
    · simp only [semSL]
      rw [semS]
      simp only [semX, VT.of, L3.l2, e_truth_list h1]
      exact fin H5 ep5 σ5 (c3'.trans c5) h1 h2 D5 rel no
    · simp only [semSL]
      rw [semS]
      simp only [semX, VT.of, L3.l2, L3.l6, e_truth_list h1]
      simp only [List.isEmpty_cons, Bool.not_false, if_true, truthP, semSL, semS, semX, VT.of, L3.l2]
      exact qs m3 H5 b f as5 ep5 (c3'.trans c5) h1 h2 hf hl
  · rw [if_neg hp]
    have hp' : p.1 = false := by simpa using hp
    exact fin H3 ep1 p.2 c3' g33 g43 D3 (fun k hk => ⟨fun _ => Eqv.refl _, fun _ => rfl⟩) (good.2 hp')
end
end Csp

namespace Csp
open PySem PySem.W PySem.Calls PyProof.Rows PySem.SeqAt Builtin Builtin.ObjectAttr

section
variable {prog : Program} {w : World} {N : Net} {vt : List Vr} {dd vc : Addr} {lsts : Nat → Addr} {ents : Nat → List Ent} {slf sdx sol a : Addr} {fb : Bool} {r : Nat} {H0 H : Hp}

theorem loop208 (hN : N.ok) (hr : ∀ k, k < N.n → ∀ c ∈ N.vcs k, ∀ j ∈ c.ks, j < vt.length) (Z : RecS vt slf sdx sol a) (IH : RecOK prog w N vt dd vc lsts ents slf sdx sol a fb r) {U : List Nat} {asg : As} {σ0 : Sg} {v : Nat} {pd : AV} {Q : Fl → Loc → Hp → Prop} {vr : Vr}
    (hv : v < N.n) (hvr : vt[v]? = some vr) (hn : look asg (v : Int) = none) (hU : U.length ≤ r) (hUm : ∀ k, k < N.n → look asg (k : Int) = none → k ≠ v → k ∈ U) (hl : asg.length + (r + 1) ≤ 100) (R : Srch H0 (Sx vt a sol) N vt dd vc lsts ents)
    (g1 : H0 slf = some (.inst 225 sdx)) (g2 : H0 sdx = some (.ns [("_forwardcheck", .bool fb)])) (G : Good N asg σ0) (D0 : Doms H0 vt σ0) (hs : ∀ k, k < N.n → (σ0 k).sts.length + (r + 1) ≤ 100)
    (P : PdAt H0 (Sx vt a sol) pd vt (pdOf N asg v fb)) :
    ∀ (xs : List Int) (m : Loc) (H : Hp) (σ : Sg) (y : AV) (ep : Nat), (∀ x ∈ xs, x ∈ (σ0 v).vis) → LocV m slf sol dd vc a v pd → Chg (Sx vt a sol) H0 H → H sol = some (.list []) → H a = some (.dict (asg ++ [((v : Int), y)]) ep) → Doms H vt σ →
      (∀ k, k < N.n → (look asg (k : Int) = none → k ≠ v → Eqv (σ0 k) (σ k)) ∧ ((look asg (k : Int) ≠ none ∨ k = v) → σ k = σ0 k)) → (∀ f, N.Sol f → Ext asg f → f v ∈ xs) →
      (∀ m' H' σ' y ep', LocV m' slf sol dd vc a v pd → Chg (Sx vt a sol) H0 H' → H' sol = some (.list []) → H' a = some (.dict (asg ++ [((v : Int), y)]) ep') → Doms H' vt σ' →
        (∀ k, k < N.n → (look asg (k : Int) = none → k ≠ v → Eqv (σ0 k) (σ' k)) ∧ ((look asg (k : Int) ≠ none ∨ k = v) → σ' k = σ0 k)) → (∀ f, N.Sol f → Ext asg f → False) → Q .next m' H') →
      (∀ m' H' b f asg' ep', Chg (Sx vt a sol) H0 H' → H' sol = some (.list [.ref b]) → H' b = some (.dict asg' ep') → N.Sol f → (∀ k, k < N.n → look asg' (k : Int) = some (.int (f k))) → Q (.ret (.ref sol)) m' H') →
      forL (fun H' => sameSrc H0 H' (.ref vr.d)) (fun y Q' m' H' => bindT ["value"] y (fun m'' => semSL (CX prog w (r + 4)) bodyVal Q' m'') m' H') (semSL (CX prog w (r + 4)) .nil) Q (xs.map .int) m H := by
  have src : ∀ H σ, Doms H vt σ → σ v = σ0 v → sameSrc H0 H (.ref vr.d) := fun H σ D e => by
    have h1 := (D0 v vr hvr).dom
    have h2 := (D v vr hvr).dom
    rw [e] at h2
    simp only [sameSrc, h1, h2, and_self]
  intro xs
  induction xs with
  | nil =>
    intro m H σ y ep hx L c h1 h2 D rel no qn qs
    refine ⟨src H σ D ((rel v hv).2 (.inr rfl)), ?_⟩
    simp only [semSL]
    exact qn m H σ y ep L c h1 h2 D rel fun f hf E => by have := no f hf E; simp at this
  | cons x xs ih =>
    intro m H σ y ep hx L c h1 h2 D rel no qn qs
    rw [List.map_cons, forL]
    have ev := (rel v hv).2 (.inr rfl)
    refine ⟨src H σ D ev, ?_⟩
    have rel' : ∀ k, k < N.n → Eqv (σ0 k) (σ k) := fun k hk => by
      by_cases h : look asg (k : Int) ≠ none ∨ k = v
      · rw [(rel k hk).2 h]; exact Eqv.refl _
      · have h' := not_or.mp h
        exact (rel k hk).1 (Classical.not_not.mp h'.1) h'.2
    refine turn208 hN hr Z IH hv hn hU hUm hl (R.chg c) (c _ _ g1 Z.ns) (c _ _ g2 Z.nx) h1 h2 (G.eqv rel') D (fun k hk => by rw [(rel' k hk).2.2]; exact hs k hk) (by rw [ev]; exact hx x (by simp)) (P.chg c) L (fun m' H' σ' ep' e c' h1' h2' D' rel2 no' => ?_) (fun m' H' b f asg' ep' c' h3 h4 h5 h6 => ?_)
    · refine ih m' H' σ' _ ep' (fun z hz => hx z (by simp [hz])) (L.of e) (c.trans c') h1' h2' D' (fun k hk => ⟨fun a b => ((rel k hk).1 a b).trans ((rel2 k hk).1 a b), fun a => ((rel2 k hk).2 a).trans ((rel k hk).2 a)⟩) (fun f hf E => ?_) qn qs
      have := no f hf E
      rcases List.mem_cons.mp this with e | e
      · exact (no' f hf E e).elim
      · exact e
    · exact qs m' H' b f asg' ep' (c.trans c') h3 h4 h5 h6

theorem cx_208 (hN : N.ok) (hr : ∀ k, k < N.n → ∀ c ∈ N.vcs k, ∀ j ∈ c.ks, j < vt.length) (Z : RecS vt slf sdx sol a) : ∀ r, RecOK prog w N vt dd vc lsts ents slf sdx sol a fb r := by
  intro r
  induction r with
  | zero =>
    intro U asg σ H ep Q hU hUm hl R g1 g2 g3 g4 G D hs qf qs
    have hUn : U = [] := List.length_eq_zero_iff.mp (by omega)
    subst hUn
    refine cx_fn (n := 3) (ok208 w) (locOf [("self", .ref slf), ("solutions", .ref sol), ("domains", .ref dd), ("vconstraints", .ref vc), ("assignments", .ref a), ("single", .bool true)]) (fun vv e => ?_) ?_
    · obtain ⟨x, y, z, u, v, t, rfl, e1, e2, e3, e4, e5, e6⟩ := args6 e
      exact ⟨_, bind_208 w x y z u v t, by simp only [List.map, e1, e2, e3, e4, e5, e6]⟩
    have l2 : locOf [("self", .ref slf), ("solutions", .ref sol), ("domains", .ref dd), ("vconstraints", .ref vc), ("assignments", .ref a), ("single", .bool true)] "solutions" = some (.ref sol) := rfl
    have l3 : locOf [("self", .ref slf), ("solutions", .ref sol), ("domains", .ref dd), ("vconstraints", .ref vc), ("assignments", .ref a), ("single", .bool true)] "domains" = some (.ref dd) := rfl
    have l4 : locOf [("self", .ref slf), ("solutions", .ref sol), ("domains", .ref dd), ("vconstraints", .ref vc), ("assignments", .ref a), ("single", .bool true)] "vconstraints" = some (.ref vc) := rfl
    have l5 : locOf [("self", .ref slf), ("solutions", .ref sol), ("domains", .ref dd), ("vconstraints", .ref vc), ("assignments", .ref a), ("single", .bool true)] "assignments" = some (.ref a) := rfl
    have l0 : locOf [("self", .ref slf), ("solutions", .ref sol), ("domains", .ref dd), ("vconstraints", .ref vc), ("assignments", .ref a), ("single", .bool true)] ".0" = none := rfl
    generalize locOf [("self", .ref slf), ("solutions", .ref sol), ("domains", .ref dd), ("vconstraints", .ref vc), ("assignments", .ref a), ("single", .bool true)] = m0 at l0 l2 l3 l4 l5 ⊢
    rw [b208_eq]
    refine sem_pick R D hN.small l0 l3 l4 l5 g4 (fun k m' H' hk hn => by have := hUm k hk hn; simp at this) fun hall m' H' e c => ?_
    have k2 := (e "solutions" (by decide) (by decide)).trans l2
    have k5 := (e "assignments" (by decide) (by decide)).trans l5
    have g3' := c _ _ g3 (by simp)
    have g4' := c _ _ g4 (by simp)
    rw [endRec]
    simp only [semSL, semS, semX, semL, VT.of, k2, k5, e_meth_list g3' (by decide : "append" ≠ "preProcess"), e_meth_dict g4' (by decide : "copy" ≠ "preProcess"), listMeth, dictMeth, Option.map, biMeth, g4']
    intro b epb fb
    have g3b := upd_keep (x := .dict asg epb) fb g3'
    simp only [g3b]
    refine ⟨by simp [big], ?_⟩
    simp only [k2, retOf]
    obtain ⟨f, hf, hl2⟩ := good_full hN G hall
    have nb : b ≠ sol := fun q => by rw [q] at fb; rw [fb.1] at g3'; cases g3'
    exact qs _ b f asg epb (((c.mono (by simp)).new fb).upd sx_sol) (by rw [upd_at]; rfl) (upd_old upd_at nb) hf hl2
  | succ r IH =>
    intro U asg σ H ep Q hU hUm hl R g1 g2 g3 g4 G D hs qf qs
    refine cx_fn (n := r + 4) (ok208 w) (locOf [("self", .ref slf), ("solutions", .ref sol), ("domains", .ref dd), ("vconstraints", .ref vc), ("assignments", .ref a), ("single", .bool true)]) (fun vv e => ?_) ?_
    · obtain ⟨x, y, z, u, v, t, rfl, e1, e2, e3, e4, e5, e6⟩ := args6 e
      exact ⟨_, bind_208 w x y z u v t, by simp only [List.map, e1, e2, e3, e4, e5, e6]⟩
    have l1 : locOf [("self", .ref slf), ("solutions", .ref sol), ("domains", .ref dd), ("vconstraints", .ref vc), ("assignments", .ref a), ("single", .bool true)] "self" = some (.ref slf) := rfl
    have l2 : locOf [("self", .ref slf), ("solutions", .ref sol), ("domains", .ref dd), ("vconstraints", .ref vc), ("assignments", .ref a), ("single", .bool true)] "solutions" = some (.ref sol) := rfl
    have l3 : locOf [("self", .ref slf), ("solutions", .ref sol), ("domains", .ref dd), ("vconstraints", .ref vc), ("assignments", .ref a), ("single", .bool true)] "domains" = some (.ref dd) := rfl
    have l4 : locOf [("self", .ref slf), ("solutions", .ref sol), ("domains", .ref dd), ("vconstraints", .ref vc), ("assignments", .ref a), ("single", .bool true)] "vconstraints" = some (.ref vc) := rfl
    have l5 : locOf [("self", .ref slf), ("solutions", .ref sol), ("domains", .ref dd), ("vconstraints", .ref vc), ("assignments", .ref a), ("single", .bool true)] "assignments" = some (.ref a) := rfl
    have l6 : locOf [("self", .ref slf), ("solutions", .ref sol), ("domains", .ref dd), ("vconstraints", .ref vc), ("assignments", .ref a), ("single", .bool true)] "single" = some (.bool true) := rfl
    have l0 : locOf [("self", .ref slf), ("solutions", .ref sol), ("domains", .ref dd), ("vconstraints", .ref vc), ("assignments", .ref a), ("single", .bool true)] ".0" = none := rfl
    generalize locOf [("self", .ref slf), ("solutions", .ref sol), ("domains", .ref dd), ("vconstraints", .ref vc), ("assignments", .ref a), ("single", .bool true)] = m0 at l0 l1 l2 l3 l4 l5 l6 ⊢
    rw [b208_eq]
    refine sem_pick R D hN.small l0 l3 l4 l5 g4 (fun v m1 H1 hv hn e1 c1 he K hK => ?_) fun hall m' H' e c => ?_
    · simp only [semSL, semS]
      refine hK m1 H1 ?_
      obtain ⟨e, ke, rfl, ie⟩ := he
      rw [semSL, semS]
      have hg : ∀ Q, getP [.int e.x, .int e.y, .int (e.k : Int)] (-1) Q H1 = Q (.int (e.k : Int)) H1 := fun Q => rfl
      simp only [semX, VT.of, ie, e_idx_tup ke, hg]
      generalize e.k = v at *
      have t0 : (upL m1 "variable" (.int (v : Int))) ".0" = none := by simp [upL, e1, l0]
      have t1 : (upL m1 "variable" (.int (v : Int))) "self" = some (.ref slf) := by simp [upL, e1, l1]
      have t2 : (upL m1 "variable" (.int (v : Int))) "solutions" = some (.ref sol) := by simp [upL, e1, l2]
      have t3 : (upL m1 "variable" (.int (v : Int))) "domains" = some (.ref dd) := by simp [upL, e1, l3]
      have t4 : (upL m1 "variable" (.int (v : Int))) "vconstraints" = some (.ref vc) := by simp [upL, e1, l4]
      have t5 : (upL m1 "variable" (.int (v : Int))) "assignments" = some (.ref a) := by simp [upL, e1, l5]
      have t6 : (upL m1 "variable" (.int (v : Int))) "single" = some (.bool true) := by simp [upL, e1, l6]
      have t7 : (upL m1 "variable" (.int (v : Int))) "variable" = some (.int (v : Int)) := by simp [upL]
      generalize upL m1 "variable" (.int (v : Int)) = m2 at t0 t1 t2 t3 t4 t5 t6 t7 ⊢
      have g4' := c1 _ _ g4 (by simp)
      rw [semSL, semS]
      simp only [semX, VT.of, t5, t7, e_setItem g4']
      refine ⟨by unfold big; omega, fun ep1 => ?_⟩
      rw [store_new hn]
      have D1 := D.chg0 c1
      have c1' : Chg (Sx vt a sol) H H1 := c1.mono (by simp)
      have c2 : Chg (Sx vt a sol) H (upd H1 a (.dict (asg ++ [((v : Int), .none)]) ep1)) := c1'.upd sx_a
      have D2 := D1.other (o := .dict (asg ++ [((v : Int), .none)]) ep1) Z.na (by simp [g4'])
      have g32 : (upd H1 a (.dict (asg ++ [((v : Int), .none)]) ep1)) sol = some (.list []) := upd_old (c1 _ _ g3 (by simp)) Z.ne.symm
      have g42 : (upd H1 a (.dict (asg ++ [((v : Int), .none)]) ep1)) a = some (.dict (asg ++ [((v : Int), .none)]) ep1) := upd_at
      generalize upd H1 a (.dict (asg ++ [((v : Int), .none)]) ep1) = H2 at c2 D2 g32 g42
      have R2 := R.chg c2
      have g12 := c2 _ _ g1 Z.ns
      have g22 := c2 _ _ g2 Z.nx
      rw [semSL, semS]
      simp only [semX, VT.of, t1, e_attr_inst g12 g22, List.lookup]
      refine ⟨by decide, rfl, ?_⟩
      have u0 : (upL m2 "forwardcheck" (.bool fb)) ".0" = none := by simp [upL, t0]
      have u1 : (upL m2 "forwardcheck" (.bool fb)) "self" = some (.ref slf) := by simp [upL, t1]
      have u2 : (upL m2 "forwardcheck" (.bool fb)) "solutions" = some (.ref sol) := by simp [upL, t2]
      have u3 : (upL m2 "forwardcheck" (.bool fb)) "domains" = some (.ref dd) := by simp [upL, t3]
      have u4 : (upL m2 "forwardcheck" (.bool fb)) "vconstraints" = some (.ref vc) := by simp [upL, t4]
      have u5 : (upL m2 "forwardcheck" (.bool fb)) "assignments" = some (.ref a) := by simp [upL, t5]
      have u6 : (upL m2 "forwardcheck" (.bool fb)) "single" = some (.bool true) := by simp [upL, t6]
      have u7 : (upL m2 "forwardcheck" (.bool fb)) "variable" = some (.int (v : Int)) := by simp [upL, t7]
      have u8 : (upL m2 "forwardcheck" (.bool fb)) "forwardcheck" = some (.bool fb) := by simp [upL]
      generalize upL m2 "forwardcheck" (.bool fb) = m3 at u0 u1 u2 u3 u4 u5 u6 u7 u8 ⊢
      have known : ∀ x ∈ Sx vt a sol, H2 x ≠ none := fun x hx => by
        rcases List.mem_append.mp hx with h | h
        · exact D2.known x h
        · simp only [List.mem_cons, List.not_mem_nil, or_false] at h
          rcases h with rfl | rfl
          · rw [g42]; simp
          · rw [g32]; simp
      rw [semSL]
      refine sem_pd (b := fun k => (look asg (k : Int)).isNone && k != v) R2 known hN.small u0 u3 u8 (fun i R' H' li c' z => ?_) fun m4 H4 pd e4 c4 i4 P => ?_
      · have g := c' _ _ g42 (by simp)
        simp only [semX, VT.of, upL, if_true, show ("assignments" : String) = "x" ↔ False from by decide, if_false, u5, cmpP, e_in_dict g, look_any]
        have : (!(look (asg ++ [((v : Int), AV.none)]) (i : Int)).isSome) = ((look asg (i : Int)).isNone && i != v) := by
          rw [look_snoc _ _ _ hn]
          by_cases h : i = v
          · subst h; simp
          · have h2 : ¬ (i : Int) = v := by omega
            rw [if_neg h2]
            have h3 : (i != v) = true := by simpa using h
            rw [h3, Bool.and_true]
            cases look asg (i : Int) <;> rfl
        rw [this]
        exact z
      · have P' : PdAt H4 (Sx vt a sol) pd vt (pdOf N asg v fb) := P
        have c4' : Chg (Sx vt a sol) H H4 := c2.trans (c4.mono (by simp))
        have R4 := R.chg c4'
        obtain ⟨ed, hd4⟩ := R4.dom
        have D4 := D2.chg0 c4
        obtain ⟨vr, hvr⟩ : ∃ v', vt[v]? = some v' := ⟨_, List.getElem?_eq_getElem (by rw [R.len]; exact hv)⟩
        have L4 : LocV m4 slf sol dd vc a v pd := ⟨(e4 _ (by decide)).trans u1, (e4 _ (by decide)).trans u2, (e4 _ (by decide)).trans u3, (e4 _ (by decide)).trans u4, (e4 _ (by decide)).trans u5, (e4 _ (by decide)).trans u6, (e4 _ (by decide)).trans u7, i4⟩
        dsimp only
        rw [semSL, semS]
        have V4 := D4 v vr hvr
        simp only [semX, VT.of, L4.l3, L4.l7, e_idx_dict hd4, tab_look vt v vr hvr, e_items_dom V4.dom]
        have hvU : v ∈ U := hUm v hv hn
        refine loop208 (U := U.erase v) (σ0 := σ) hN hr Z IH hv hvr hn (by rw [List.length_erase_of_mem hvU]; omega) (fun k hk hk2 hk3 => (List.mem_erase_of_ne hk3).mpr (hUm k hk hk2)) (by omega) R4 (c4' _ _ g1 Z.ns) (c4' _ _ g2 Z.nx) G D4 (fun k hk => by have := hs k hk; omega) P' (σ v).vis m4 H4 σ .none ep1 (fun _ h => h) L4 (Chg.refl _ _) (c4 _ _ g32 (by simp)) (c4 _ _ g42 (by simp)) D4
          (fun k hk => ⟨fun _ _ => Eqv.refl _, fun _ => rfl⟩) (fun f hf E => G.keep f hf E v hv hn) (fun m5 H5 σ5 y ep5 L5 c5 h1 h2 D5 rel no => ?_) (fun m5 H5 b f as5 ep5 c5 h1 h2 hf hl => ?_)
        · dsimp only
          rw [semSL, semS]
          simp only [semX, VT.of, L5.l5, L5.l7, e_delItem h2]
          refine ⟨by rw [look_snoc _ _ _ hn]; simp, fun ep6 => ?_⟩
          rw [drop_snoc hn]
          rw [semSL, semS]
          simp only [semX, VT.of, L5.l2, retOf]
          refine qf _ σ5 ep6 ((c4'.trans c5).upd sx_a) (upd_old h1 Z.ne.symm) upd_at (D5.other Z.na (by simp [h2])) (fun k hk => ⟨fun hkn => ?_, fun hkn => (rel k hk).2 (.inl hkn)⟩) no
          by_cases h : k = v
          · rw [(rel k hk).2 (.inr h)]; exact Eqv.refl _
          · exact (rel k hk).1 hkn h
        · exact qs H5 b f as5 ep5 (c4'.trans c5) h1 h2 hf hl
    · have k2 := (e "solutions" (by decide) (by decide)).trans l2
      have k5 := (e "assignments" (by decide) (by decide)).trans l5
      have g3' := c _ _ g3 (by simp)
      have g4' := c _ _ g4 (by simp)
      rw [endRec]
      simp only [semSL, semS, semX, semL, VT.of, k2, k5, e_meth_list g3' (by decide : "append" ≠ "preProcess"), e_meth_dict g4' (by decide : "copy" ≠ "preProcess"), listMeth, dictMeth, Option.map, biMeth, g4']
      intro b epb fb
      have g3b := upd_keep (x := .dict asg epb) fb g3'
      simp only [g3b]
      refine ⟨by simp [big], ?_⟩
      simp only [k2, retOf]
      obtain ⟨f, hf, hl2⟩ := good_full hN G hall
      have nb : b ≠ sol := fun q => by rw [q] at fb; rw [fb.1] at g3'; cases g3'
      exact qs _ b f asg epb (((c.mono (by simp)).new fb).upd sx_sol) (by rw [upd_at]; rfl) (upd_old upd_at nb) hf hl2
end
end Csp

namespace Csp
open PySem PySem.W PySem.Calls PyProof.Rows PySem.SeqAt Builtin Builtin.ObjectAttr

theorem not_more {H : Hp} {S T : List Addr} {x : Addr} {o : AO} (h : H x = some o) (hn : x ∉ S) (hT : ∀ y ∈ T, H y = none) : x ∉ S ++ T := fun m => by
  rcases List.mem_append.mp m with m | m
  · exact hn m
  · rw [hT x m] at h; cases h
theorem ConAt.more {H : Hp} {S T : List Addr} {c vl : Addr} {con : Con} (C : ConAt H S c vl con) (hT : ∀ y ∈ T, H y = none) : ConAt H (S ++ T) c vl con := by
  have nc : c ∉ S ++ T := by
    obtain ⟨C', dx, h, _⟩ := C.inst
    exact not_more h C.nc hT
  refine ⟨C.lst, not_more C.lst C.nl hT, nc, C.n347, ?_⟩
  have o := C.obj
  cases con with
  | mx i ks => obtain ⟨x, a, b, d⟩ := o; exact ⟨x, a, not_more d b hT, d⟩
  | mn i ks => obtain ⟨x, a, b, d⟩ := o; exact ⟨x, a, not_more d b hT, d⟩
  | sm ks => obtain ⟨x, l, a, b, d, e, f⟩ := o; exact ⟨x, l, a, not_more d b hT, d, not_more f e hT, f⟩
theorem EntAt.more {H : Hp} {S T : List Addr} {e : Ent} (E : EntAt H S e) (hT : ∀ y ∈ T, H y = none) : EntAt H (S ++ T) e := ⟨E.tup, not_more E.tup E.nz hT, E.con.more hT⟩
theorem Srch.more {H : Hp} {S T : List Addr} {N : Net} {vt : List Vr} {dd vc : Addr} {lsts : Nat → Addr} {ents : Nat → List Ent} (R : Srch H S N vt dd vc lsts ents) (hT : ∀ y ∈ T, H y = none) : Srch H (S ++ T) N vt dd vc lsts ents where
  len := R.len
  ap := R.ap
  dom := R.dom
  nd := by obtain ⟨e, h⟩ := R.dom; exact not_more h R.nd hT
  vcd := R.vcd
  nv := by obtain ⟨e, h⟩ := R.vcd; exact not_more h R.nv hT
  lst k hk := ⟨(R.lst k hk).1, not_more (R.lst k hk).1 (R.lst k hk).2 hT⟩
  ent k hk e m := (R.ent k hk e m).more hT
  con := R.con
  dyn a ha := List.mem_append_left _ (R.dyn a ha)

section
variable {prog : Program} {w : World} {N : Net} {vt : List Vr} {dd vc : Addr} {lsts : Nat → Addr} {ents : Nat → List Ent} {slf sdx sol a : Addr} {fb : Bool} {r : Nat} {H0 H : Hp}

theorem cx_215 (hN : N.ok) (h0 : 0 < N.n) {cs : AV} {σ : Sg} {Q : AV → Hp → Prop} (R : Srch H (dynOf vt) N vt dd vc lsts ents) (g1 : H slf = some (.inst 225 sdx)) (g2 : H sdx = some (.ns [("_forwardcheck", .bool fb)])) (n1 : slf ∉ dynOf vt) (n2 : sdx ∉ dynOf vt) (n3 : slf ≠ 347)
    (G : Good N [] σ) (D : Doms H vt σ) (hs : ∀ k, k < N.n → (σ k).sts.length ≤ 10)
    (qn : ∀ H', Chg (dynOf vt) H H' → (∀ f, N.Sol f → False) → Q .none H')
    (qs : ∀ H' b f asg ep, Chg (dynOf vt) H H' → H' b = some (.dict asg ep) → N.Sol f → (∀ k, k < N.n → look asg (k : Int) = some (.int (f k))) → Q (.ref b) H') :
    CX prog w 20 (.ref 215) [.ref slf, .ref dd, cs, .ref vc] Q H := by
  refine cx_fn (n := 19) (ok215 w) (locOf [("self", .ref slf), ("domains", .ref dd), ("constraints", cs), ("vconstraints", .ref vc)]) (fun vv e => ?_) ?_
  · obtain ⟨x, y, z, u, rfl, e1, e2, e3, e4⟩ := args4 e
    exact ⟨_, bind_215 w x y z u, by simp only [List.map, e1, e2, e3, e4]⟩
  have l1 : locOf [("self", .ref slf), ("domains", .ref dd), ("constraints", cs), ("vconstraints", .ref vc)] "self" = some (.ref slf) := rfl
  have l2 : locOf [("self", .ref slf), ("domains", .ref dd), ("constraints", cs), ("vconstraints", .ref vc)] "domains" = some (.ref dd) := rfl
  have l3 : locOf [("self", .ref slf), ("domains", .ref dd), ("constraints", cs), ("vconstraints", .ref vc)] "vconstraints" = some (.ref vc) := rfl
  generalize locOf [("self", .ref slf), ("domains", .ref dd), ("constraints", cs), ("vconstraints", .ref vc)] = m0 at l1 l2 l3 ⊢
  have mm : methOf H (.ref slf) "recursiveBacktracking" = some (.py 208) := by
    rw [e_meth_inst g1 g2 n3]; rfl
  rw [b215, semSL, semS]
  simp only [semX, semL, VT.of, l1, l2, l3, mm]
  refine ⟨by simp, fun sol fs a ep fa => ?_⟩
  have nas : a ≠ sol := fun e => by have := fa.1; rw [e, upd_at] at this; cases this
  have fa0 : Fresh H a := fa.back ((Chg.refl [] H).new fs)
  have kn : ∀ {x}, Fresh H x → x ∉ dynOf vt := fun f m => D.known _ m f.1
  have c1 : Chg [] H (upd (upd H sol (.list [])) a (.dict [] ep)) := ((Chg.refl [] H).new fs).new fa
  have hT : ∀ y ∈ [a, sol], H y = none := fun y hy => by
    simp only [List.mem_cons, List.not_mem_nil, or_false] at hy
    rcases hy with rfl | rfl
    · exact fa0.1
    · exact fs.1
  have R' := (R.more hT).chg0 c1
  have g3 : (upd (upd H sol (.list [])) a (.dict [] ep)) sol = some (.list []) := upd_old upd_at nas.symm
  have g4 : (upd (upd H sol (.list [])) a (.dict [] ep)) a = some (.dict [] ep) := upd_at
  generalize upd (upd H sol (.list [])) a (.dict [] ep) = H1 at c1 R' g3 g4 ⊢
  have Z : RecS vt slf sdx sol a := ⟨not_more g1 n1 hT, not_more g2 n2 hT, n3, kn fa0, kn fs, nas⟩
  have cd : ∀ {H'}, Chg (Sx vt a sol) H1 H' → Chg (dynOf vt) H H' := fun {H'} c b x e nb => c b x (c1 b x e (by simp)) (not_more e nb hT)
  refine cx_up (n := N.n + 4) (cx_208 hN (fun k hk c hc j hj => by rw [R.len]; exact (hN.vars k hk c hc j hj).1) Z N.n (List.range N.n) [] σ H1 ep _ (by simp) (fun k hk _ => by simpa using hk) (by have := hN.small; simp; omega) R' (c1 _ _ g1 (by simp)) (c1 _ _ g2 (by simp)) g3 g4 G (D.chg0 c1) (fun k hk => by have := hs k hk; have := hN.small; omega)
    (fun H' σ' ep' c h1 h2 D' rel no => ?_) (fun H' b f as' ep' c h1 h2 hf hl => ?_)) (by have := hN.small; omega)
  · have u : (upL m0 "solutions" (.ref sol)) "solutions" = some (.ref sol) := by simp [upL]
    simp only [semSL, semS, semX, semL, VT.of, u, e_truth_list h1]
    simp only [List.isEmpty_nil, Bool.not_true, Bool.false_eq_true, if_false, e_truth_list h1]
    exact qn H' (cd c) fun f hf => no f hf fun k v e => by cases e
  · have u : (upL m0 "solutions" (.ref sol)) "solutions" = some (.ref sol) := by simp [upL]
    have ne : as' ≠ [] := fun e => by have := hl 0 h0; rw [e] at this; cases this
    simp only [semSL, semS, semX, semL, VT.of, u, e_truth_list h1]
    simp only [List.isEmpty_cons, Bool.not_false, if_true, e_idx_list h1]
    refine ⟨by decide, ?_⟩
    have hg : ∀ Q, getP [AV.ref b] 0 Q H' = Q (.ref b) H' := fun Q => rfl
    rw [hg]
    simp only [e_truth_dict h2]
    have : as'.isEmpty = false := by cases as' with | nil => exact absurd rfl ne | cons _ _ => rfl
    simp only [this, Bool.not_false, if_true, retOf]
    exact qs H' b f as' ep' (cd c) h2 hf hl
end
end Csp

namespace Csp
open PySem PySem.W PySem.Calls PyProof.Rows PySem.SeqAt Builtin Builtin.ObjectAttr

/-! a generator's run, up to its first yield -/
theorem wrap_id {α : Type} (m : Sem α) : m.wrap .pure .raise id id = m := by
  induction m <;> (simp only [Sem.wrap, *]; try rfl)

section
variable {prog : Program} {w : World} {A : Around} {R : GenEnd} {Y : Protocol} {k : Nat} {s₀ : Shared} {c : Code} {fr : List Frame} {s : Shared} {env : Env} {K : Flow → Sem Fin} {Hh : Value → Sem Fin} {gd : Bool → Bool} {lv : List Value → List Value}

theorem seg_tree {t : Sem Fin} (h : wpAny (model prog w) (A.over c fr) t (fun fin s' => Seg (model prog w) A R Y k s₀ c (.pure fin) fr s') (fun _ _ => False) s) : Seg (model prog w) A R Y k s₀ c t fr s := by
  rw [← wrap_id t]
  exact seg_wrap (wpAny_mono h (fun _ _ z => z) fun _ _ z => z.elim)

theorem seg_holding {α : Type} {vs : List Value} {m : Sem α} {K : α → Sem Fin} (h : ∀ lv', Seg (model prog w) A R Y k s₀ c (m.wrap K Hh gd lv') fr s) : Seg (model prog w) A R Y k s₀ c ((holding vs m).wrap K Hh gd lv) fr s := by
  unfold holding
  split
  · exact h lv
  · rw [Sem.keep_eq_wrap, Sem.wrap_wrap]
    exact h _

/-- the frame that a statement's own code returns to -/
def backFr (env : Env) (K : Flow → Sem Fin) (Hh : Value → Sem Fin) (gd : Bool → Bool) (lv : List Value → List Value) (c : Code) (p : Pos) : Frame :=
  .ret (fun r => ((match r with | .ok f => (.pure f : Sem Flow) | .error e => .raise e).onRaise fun (x : Value) => do
        if (← field x 1) == Value.none then unsupported "frame.own-activation:exception-without-traceback"
        setFlight x env.frame).wrap K Hh gd lv) none (gd false) (lv []) c p []

theorem seg_For {target iter : Expr} {body orelse : List Stmt} {pos : Pos} (hs : ∀ x, foldedSetIterable iter env x = pure x)
    (h : wpAny (model prog w) (A.over c fr) (eval iter env) (fun x s₁ => wpAny (model prog w) (A.over c fr) (pyIter x) (fun it s₂ =>
      ∀ p, Seg (model prog w) A R Y k s₀ (.forLoop target it body orelse env) ((model prog w).den (.forLoop target it body orelse env)) (backFr env K Hh gd lv c p :: fr) s₂) (fun _ _ => False) s₁) (fun _ _ => False) s) :
    Seg (model prog w) A R Y k s₀ c ((exec (.For target iter body orelse pos) env).wrap K Hh gd lv) fr s := by
  rw [exec_For]
  show Seg (model prog w) A R Y k s₀ c (.at pos fun _ => ((eval iter env >>= fun x => foldedSetIterable iter env x >>= fun x => standAt iter.pos >>= fun _ => holding [x] (pyIter x) >>= fun it => runOwn (.forLoop target it body orelse env) env)).wrap K Hh gd lv) fr s
  refine seg_at ?_
  rw [Sem.bind_eq_wrap', Sem.wrap_wrap]
  refine seg_wrap (wpAny_mono h (fun x s₁ h₁ => ?_) fun _ _ z => z.elim)
  rw [hs x]
  show Seg (model prog w) A R Y k s₀ c (.at iter.pos fun _ => (holding [x] (pyIter x) >>= fun it => runOwn (.forLoop target it body orelse env) env).wrap K Hh gd lv) fr s₁
  refine seg_at ?_
  rw [Sem.bind_eq_wrap', Sem.wrap_wrap]
  refine seg_holding fun lv' => seg_wrap (wpAny_mono h₁ (fun it s₂ h₂ => ?_) fun _ _ z => z.elim)
  exact seg_call h₂

theorem seg_forLoop {target : Expr} {it : Value} {body orelse : List Stmt} (P : Fin → Shared → Prop)
    (h : wpAny (model prog w) (A.over (.forLoop target it body orelse env) fr) (pyNext it) (fun r s₁ => match r with
      | none => P (.again (.block orelse env)) s₁
      | some v => wpAny (model prog w) (A.over (.forLoop target it body orelse env) fr) (letOwnedTupleGo target it v) (fun _ s₁' =>
          wpAny (model prog w) (A.over (.forLoop target it body orelse env) fr) (assign target env v) (fun _ s₂ => wpAny (model prog w) (A.over (.forLoop target it body orelse env) fr) (execs body env) (fun f s₃ => match f with
            | .next | .cont => P (.again (.forLoop target it body orelse env)) s₃
            | .brk => P (.done .next) s₃
            | .ret v => P (.done (.ret v)) s₃) (fun _ _ => False) s₂) (fun _ _ => False) s₁') (fun _ _ => False) s₁) (fun _ _ => False) s)
    (hP : ∀ fin s', P fin s' → Seg (model prog w) A R Y k s₀ (.forLoop target it body orelse env) (.pure fin) fr s') :
    Seg (model prog w) A R Y k s₀ (.forLoop target it body orelse env) ((model prog w).den (.forLoop target it body orelse env)) fr s := by
  refine seg_tree (wpAny_mono (Q := P) (E := fun _ _ => False) ?_ hP fun _ _ z => z)
  show wpAny _ _ ((forTurn target it body orelse env).onRaise (fun x => do noteFrame x env; theTreesLotGoes x)) _ _ s
  refine wpAny_onRaise (wpAny_mono (Q := P) (E := fun _ _ => False) ?_ (fun _ _ z => z) fun _ _ z => z.elim)
  simp only [forTurn]
  refine wpAny_bind (wpAny_standAt (wpAny_bind (wpAny_onRaise (wpAny_mono h (fun r s₁ h₁ => ?_) fun _ _ z => z.elim))))
  cases r with
  | none => exact wpAny_pure h₁
  | some v =>
    refine wpAny_bind (wpAny_mono h₁ (fun _ s₁' h₁' => ?_) fun _ _ h' => h')
    refine wpAny_bind (wpAny_mono h₁' (fun _ s₂ h₂ => wpAny_bind (wpAny_mono h₂ (fun f s₃ h₃ => ?_) fun _ _ h' => h')) fun _ _ h' => h')
    cases f with
    | next => exact wpAny_pure h₃
    | cont => exact wpAny_pure h₃
    | brk => exact wpAny_pure h₃
    | ret v => exact wpAny_pure h₃

theorem seg_block {ss : List Stmt} (h : ∀ Hh', Seg (model prog w) A R Y k s₀ (.block ss env) ((execs ss env).wrap (fun f => .pure (.done f)) Hh' id id) fr s) :
    Seg (model prog w) A R Y k s₀ (.block ss env) ((model prog w).den (.block ss env)) fr s := by
  show Seg _ A R Y k s₀ _ (((execs ss env).onRaise (fun x => do noteFrame x env; theTreesLotGoes x)) >>= fun f => .pure (.done f)) fr s
  rw [Sem.onRaise_eq_wrap, Sem.bind_eq_wrap', Sem.wrap_wrap]
  exact h _
end
end Csp

namespace Csp
open PySem PySem.W PySem.Calls PyProof.Rows PySem.SeqAt Builtin Builtin.ObjectAttr

theorem pushEnvs_append (a b : List Env) (x : Option (List Env)) : pushEnvs (a ++ b) x = pushEnvs a (pushEnvs b x) := by
  rw [pushEnvs_eq, pushEnvs_eq, pushEnvs_eq, Option.map_map]
  cases x <;> simp
theorem pushGuards_append (a b : List Code) (x : Option (List Code)) : pushGuards (a ++ b) x = pushGuards a (pushGuards b x) := by
  cases a with
  | nil => rfl
  | cons a r =>
    cases b with
    | nil => cases x <;> simp [pushGuards]
    | cons b r' => cases x <;> simp [pushGuards]
/-- codes that weigh nothing -/
def lightC (c : Code) : Prop := c.weight = 0 ∧ c.cUnits = 0 ∧ c.envs = [] ∧ c.guards = []
theorem light_while (t b o e) : lightC (.whileLoop t b o e) := ⟨rfl, rfl, rfl, rfl⟩
theorem light_for (t i b o e) : lightC (.forLoop t i b o e) := ⟨rfl, rfl, rfl, rfl⟩
theorem light_block (b e) : lightC (.block b e) := ⟨rfl, rfl, rfl, rfl⟩
theorem over_push {A : Around} {c c' : Code} {fr : List Frame} {K : Result → Sem Fin} {g : Bool} {l kp : List Value} {p : Pos} (h : lightC c') : A.over c' (.ret K none g l c p kp :: fr) = A.over c fr := by
  obtain ⟨h1, h2, h3, h4⟩ := h
  unfold Around.over
  rw [h1, h2, h3, h4]
  simp only [List.map_cons, Frame.where_, frameCount_cons, unitsOf_cons, envsOf_cons, guardsOf_cons, pushEnvs_append, pushGuards_append]
  have e1 : (marksOver (.ret K none g l c p kp :: fr) (A.handled, A.handled)).1 = (marksOver fr (A.handled, A.handled)).1 := rfl
  rw [e1]
  have e2 : ∀ x, pushEnvs [] x = x := fun _ => rfl
  have e3 : ∀ x, pushGuards [] x = x := fun _ => rfl
  rw [e2, e3]
  congr 1 <;> omega
theorem over_light {A : Around} {c c' : Code} {fr : List Frame} (h : lightC c) (h' : lightC c') : A.over c fr = A.over c' fr := by
  obtain ⟨h1, h2, h3, h4⟩ := h
  obtain ⟨k1, k2, k3, k4⟩ := h'
  unfold Around.over
  rw [h1, h2, h3, h4, k1, k2, k3, k4]

section
variable {prog : Program} {w : World} {A : Around} {R : GenEnd} {Y : Protocol} {s₀ : Shared} {env : Env} {F0 : FF} {fs : List Env} {n : Nat} {m : Loc} {H : Hp}

/-- a statement of a generator's body, before its first yield -/
def GX (prog : Program) (w : World) (A : Around) (R : GenEnd) (Y : Protocol) (s₀ : Shared) (env : Env) (F0 : FF) (fs : List Env) (n : Nat) (t : Sem Flow) (Q : Fl → Loc → Hp → Prop) (m : Loc) (H : Hp) : Prop :=
  ∀ c fr, Room fs (A.over c fr) n → splitAtGen fr = none → fr.any Frame.guarded = false → ∀ F s K Hh gd lv, gd false = false → FrIn env F m → Base env F0 F → St prog w F H s →
    (∀ f s', Left prog w F0 env Q (flA f) s' → Seg (model prog w) A R Y 1 s₀ c (K f) fr s') → Seg (model prog w) A R Y 1 s₀ c (t.wrap K Hh gd lv) fr s

theorem gx_sx {t : Sem Flow} {Q : Fl → Loc → Hp → Prop} (h : ∀ A', Room fs A' n → SX prog w A' F0 env t Q m H) : GX prog w A R Y s₀ env F0 fs n t Q m H :=
  fun c fr R' _ _ F s K Hh gd lv _ I B S hK => seg_wrap (wpAny_mono (h _ R' F s I B S) (fun f s' z => hK f s' z) fun _ _ z => z.elim)

theorem gx_nil {Q : Fl → Loc → Hp → Prop} (h : Q .next m H) : GX prog w A R Y s₀ env F0 fs n (execs [] env) Q m H := gx_sx fun A' _ => sx_nil h

theorem gx_cons {st : Stmt} {r : List Stmt} {Q : Fl → Loc → Hp → Prop} (h : GX prog w A R Y s₀ env F0 fs n (exec st env) (fun fl m' H' => match fl with | .next => GX prog w A R Y s₀ env F0 fs n (execs r env) Q m' H' | fl => Q fl m' H') m H) :
    GX prog w A R Y s₀ env F0 fs n (execs (st :: r) env) Q m H := by
  intro c fr R' h1 h2 F s K Hh gd lv hg I B S hK
  refine seg_execs_cons (h c fr R' h1 h2 F s _ Hh gd lv hg I B S fun f s' z => ?_)
  obtain ⟨F', m', H', I', B', S', q⟩ := z
  cases f
  · exact q c fr R' h1 h2 F' s' K Hh gd lv hg I' B' S' hK
  · exact hK _ s' ⟨F', m', H', I', B', S', q⟩
  · exact hK _ s' ⟨F', m', H', I', B', S', q⟩
  · exact hK _ s' ⟨F', m', H', I', B', S', q⟩

/-- what a yield hands on -/
def YieldOk (prog : Program) (w : World) (Y : Protocol) (s₀ : Shared) (env : Env) (F0 : FF) (Qy : AV → Hp → Prop) : Prop :=
  ∀ v s' kap, (∃ F' m' H', FrIn env F' m' ∧ Base env F0 F' ∧ St prog w F' H' s' ∧ Qy (ab v) H') → Y 0 s₀ v s' kap
def RetOk (Q : Fl → Loc → Hp → Prop) (Qy : AV → Hp → Prop) : Prop := ∀ a m H, Q (.ret (.other (.ref a))) m H → Qy (.ref a) H

theorem gx_yield {e : Expr} {yp pos : Pos} {Q : Fl → Loc → Hp → Prop} {Qy : AV → Hp → Prop} (hY : YieldOk prog w Y s₀ env F0 Qy) (hQ : RetOk Q Qy) (hco : env.scope.isCoroutine = false) (hi : interactive env = false)
    (h : ∀ A', Room fs A' n → ∀ F, FrIn env F m → Base env F0 F → TV prog w A' F env e (fun v H' => match v with | .ref a => Q (.ret (.other (.ref a))) m H' | _ => False) H) : GX prog w A R Y s₀ env F0 fs n (exec (.Expr (.Yield (some e) yp) pos) env) Q m H := by
  intro c fr R' h1 h2 F s K Hh gd lv hg I B S hK
  refine seg_Expr_Yield h1 hg h2 (wpAny_mono (h _ R' F I B s S) (fun v s' z => ?_) fun _ _ z => z.elim) hco hi
  obtain ⟨H', S', q⟩ := z
  have q' : match ab v with | .ref a => Q (.ret (.other (.ref a))) m H' | _ => False := q
  split at q'
  · rename_i a e
    exact fun kap _ => hY v s' kap ⟨F, m, H', I, B, S', by rw [e]; exact hQ _ _ _ q'⟩
  · exact q'.elim

theorem gx_while {c : Expr} {a b : List Stmt} {pos : Pos} {Q : Fl → Loc → Hp → Prop} {Qy : AV → Hp → Prop} {cP : Loc → PT Bool} {aP bP : ST} (hQ : RetOk Q Qy)
    (hc : ∀ A', Room fs A' n → ∀ F m H Q, FrIn env F m → Base env F0 F → cP m Q H → TB prog w A' F env c Q H) (ha : ∀ m H Q, RetOk Q Qy → aP Q m H → GX prog w A R Y s₀ env F0 fs n (execs a env) Q m H)
    (hb : ∀ A', Room fs A' n → ∀ m H Q, bP Q m H → SX prog w A' F0 env (execs b env) Q m H) (h : ∃ k, whlN cP aP bP Q k m H) : GX prog w A R Y s₀ env F0 fs n (exec (.While c a b pos) env) Q m H := by
  intro c0 fr R' h1 h2 F s K Hh gd lv hg I B S hK
  obtain ⟨k, h⟩ := h
  refine seg_While fun p => ?_
  show Seg (model prog w) A R Y 1 s₀ (.whileLoop c a b env) _ (backFr env K Hh gd lv c0 p :: fr) s
  have Ro : Room fs (A.over (.whileLoop c a b env) (backFr env K Hh gd lv c0 p :: fr)) n := by
    unfold backFr
    rw [over_push (light_while ..)]; exact R'
  have sp : splitAtGen (backFr env K Hh gd lv c0 p :: fr) = none := by
    unfold backFr
    simp only [splitAtGen, h1, Option.map_none]
  have gu : (backFr env K Hh gd lv c0 p :: fr).any Frame.guarded = false := by
    rw [List.any_cons, h2, Bool.or_false]; exact hg
  have fin : ∀ f s', Left prog w F0 env Q (flA f) s' → Seg (model prog w) A R Y 1 s₀ (.whileLoop c a b env) (.pure (.done f)) (backFr env K Hh gd lv c0 p :: fr) s' := fun f s' z => seg_leaf (.ok f) (hK f s' z)
  generalize backFr env K Hh gd lv c0 p :: fr = fr' at Ro sp gu fin ⊢
  clear hK R' hg
  induction k generalizing m H F s with
  | zero => exact h.elim
  | succ k ih =>
    refine seg_whileLoop (wpAny_mono (hc _ Ro F m H _ I B h s S) (fun t s1 z => ?_) fun _ _ z => z.elim)
    obtain ⟨H1, S1, q⟩ := z
    cases t
    · rw [if_neg Bool.false_ne_true]
      exact seg_wrap (wpAny_mono (hb _ Ro m H1 _ q F s1 I B S1) (fun f s2 z => fin f s2 z) fun _ _ z => z.elim)
    · rw [if_pos rfl]
      refine ha m H1 _ ?_ q _ fr' Ro sp gu F s1 _ _ id id rfl I B S1 fun f s2 z => ?_
      · exact fun v m' H' z => hQ v m' H' z
      · obtain ⟨F2, m2, H2, I2, B2, S2, q2⟩ := z
        cases f
        · exact seg_again rfl (ih F2 s2 I2 B2 S2 q2)
        · exact fin .next s2 ⟨F2, m2, H2, I2, B2, S2, q2⟩
        · exact seg_again rfl (ih F2 s2 I2 B2 S2 q2)
        · exact fin _ s2 ⟨F2, m2, H2, I2, B2, S2, q2⟩
end
end Csp

namespace Csp
open PySem PySem.W PySem.Calls PyProof.Rows PySem.SeqAt Builtin Builtin.ObjectAttr

section
variable {prog : Program} {w : World} {A : Around} {R : GenEnd} {Y : Protocol} {s₀ : Shared} {env : Env} {F0 : FF} {fs : List Env} {n : Nat} {m : Loc} {H : Hp}

theorem gx_for {k : Kinds} (hk : ∀ q, env.kindOf q = k q) (BC : BaseC env F0) (T0 : StatB fs w env F0) {xs : List String} {t it : Expr} {body orelse : List Stmt} {pos : Pos} (ht : tgt1 k xs t = true) (hs : noSet it = true) {Q : Fl → Loc → Hp → Prop} {Qy : AV → Hp → Prop} {bodyP oP : ST} (hQ : RetOk Q Qy)
    (hb : ∀ A', Room fs A' n → ∀ F0', (∀ a o, F0.k a = some o → F0'.k a = some o) → BaseC env F0' → StatB fs w env F0' → ∀ m H Q, bodyP Q m H → SX prog w A' F0' env (execs body env) Q m H)
    (ho : ∀ m H Q, RetOk Q Qy → oP Q m H → GX prog w A R Y s₀ env F0 fs n (execs orelse env) Q m H)
    (h : ∀ A', Room fs A' n → ∀ F, FrIn env F m → Base env F0 F → TV prog w A' F env it (fun v H1 => match itemsOf H1 v with
      | some ys => forL (fun H' => sameSrc H1 H' v) (fun y Q' m' H' => bindT xs y (fun m'' => bodyP Q' m'') m' H') oP Q ys m H1
      | none => False) H) : GX prog w A R Y s₀ env F0 fs n (exec (.For t it body orelse pos) env) Q m H := by
  intro c0 fr R' h1 h2 F s K Hh gd lv hg I B S hK
  refine seg_For (noSet_of hs) (wpAny_mono (h _ R' F I B s S) (fun v s1 z => ?_) fun _ _ z => z.elim)
  obtain ⟨H1, S1, q⟩ := z
  dsimp only at q
  split at q
  · rename_i ys hys
    refine tx_pyIter (T0 _ _ I B) R' hys S1 fun o hof It p => ?_
    have fia : F.k s1.heap.objs.size = none := S1.freshF
    have f0 : F0.k s1.heap.objs.size = none := by
      cases e : F0.k s1.heap.objs.size with
      | none => rfl
      | some q => rw [B.ext _ _ e] at fia; cases fia
    have hLn : env.locals ≠ s1.heap.objs.size := by
      obtain ⟨oL, _, _, e, _⟩ := I.ns
      exact Nat.ne_of_lt (S1.ltF e)
    have S2 := S1.newKnown (o := o) (Nat.le_refl _) (fun _ _ e => Heap.get?_push_of_some _ e) (Heap.get?_push_size _ hof) s1.toks
    have hia3 : s1.heap.objs.size ≠ 347 := Nat.ne_of_gt S1.size
    generalize s1.heap.objs.size = ia at fia f0 hLn S2 hia3
    have old : ∀ a q, F.k a = some q → (F.put ia o).k a = some q := fun a q e => by rw [FF.put_ne (by rintro rfl; rw [fia] at e; cases e)]; exact e
    have ext0 : ∀ o', ∀ a q, F0.k a = some q → (F0.put ia o').k a = some q := fun o' a q e => by rw [FF.put_ne (by rintro rfl; rw [f0] at e; cases e)]; exact e
    have unp : ∀ {F' : FF} {o'}, Base env (F0.put ia o') F' → Base env F0 F' := fun B' => B'.unput (ext0 _) rfl rfl B.off
    have Ro : Room fs (A.over (.forLoop t (.ref ia) body orelse env) (backFr env K Hh gd lv c0 p :: fr)) n := by
      unfold backFr
      rw [over_push (light_for ..)]; exact R'
    have Rb : Room fs (A.over (.block orelse env) (backFr env K Hh gd lv c0 p :: fr)) n := by
      unfold backFr
      rw [over_push (light_block ..)]; exact R'
    have sp : splitAtGen (backFr env K Hh gd lv c0 p :: fr) = none := by
      unfold backFr
      simp only [splitAtGen, h1, Option.map_none]
    have gu : (backFr env K Hh gd lv c0 p :: fr).any Frame.guarded = false := by
      rw [List.any_cons, h2, Bool.or_false]; exact hg
    have fin : ∀ c f s', Left prog w F0 env Q (flA f) s' → Seg (model prog w) A R Y 1 s₀ c (.pure (.done f)) (backFr env K Hh gd lv c0 p :: fr) s' := fun c f s' z => seg_leaf (.ok f) (hK f s' z)
    generalize backFr env K Hh gd lv c0 p :: fr = fr' at Ro Rb sp gu fin ⊢
    have loop : ∀ (c i : Nat) (F : FF) (m : Loc) (H : Hp) (o : Obj) (s : Shared), c = (ys.drop i).length → F.k ia = some o → ItAt H1 (ab v) ys i o → FrIn env F m → Base env (F0.put ia o) F → St prog w F H s →
        forL (fun H' => sameSrc H1 H' (ab v)) (fun y Q' m' H' => bindT xs y (fun m'' => bodyP Q' m'') m' H') oP Q (ys.drop i) m H →
        Seg (model prog w) A R Y 1 s₀ (.forLoop t (.ref ia) body orelse env) ((model prog w).den (.forLoop t (.ref ia) body orelse env)) fr' s := by
      intro c
      induction c with
      | zero =>
        intro i F2 m2 H2 o2 s2 hc hF2 It2 I2 B2 S2 q2
        obtain ⟨vs, hvs⟩ := It2.fields
        have hnil : ys.drop i = [] := List.length_eq_zero_iff.mp hc.symm
        have hge : ys.length ≤ i := by simpa using hnil
        rw [hnil] at q2
        obtain ⟨hsrc, q2⟩ := q2
        refine seg_forLoop (fun fn s' => fn = .again (.block orelse env) ∧ ∃ F', FrIn env F' m2 ∧ Base env F0 F' ∧ St prog w F' H2 s') ?_ fun fn s' z => ?_
        · refine wpAny_mono (tx_pyNext Ro It2 hF2 hia3 hsrc S2) (fun r s3 z => ?_) fun _ _ z => z.elim
          cases r with
          | some u =>
            obtain ⟨e, _⟩ := z
            rw [List.getElem?_eq_none hge] at e; cases e
          | none =>
            have Bc : Base env F0 (F2.cut ia) := ⟨fun a q e => by
              have hne : a ≠ ia := by rintro rfl; rw [f0] at e; cases e
              rw [FF.cut_ne hne]
              exact B2.ext a q (by rw [FF.put_ne hne]; exact e), B2.os, B2.sa, B.off⟩
            exact ⟨rfl, F2.cut ia, I2.cut hF2 hvs, Bc, z.2⟩
        · obtain ⟨rfl, F3, I3, B3, S3⟩ := z
          refine seg_again rfl (seg_block fun Hh' => ?_)
          exact ho m2 H2 _ hQ q2 _ fr' Rb sp gu F3 s' _ Hh' id id rfl I3 B3 S3 fun f s4 z => fin _ f s4 z
      | succ c ih =>
        intro i F2 m2 H2 o2 s2 hc hF2 It2 I2 B2 S2 q2
        obtain ⟨vs, hvs⟩ := It2.fields
        have hlt : i < ys.length := by
          rw [List.length_drop] at hc; omega
        rw [List.drop_eq_getElem_cons hlt] at q2
        obtain ⟨hsrc, q2⟩ := q2
        refine seg_forLoop (fun fn s' => match fn with
          | .again c' => c' = .forLoop t (.ref ia) body orelse env ∧ ∃ F m H o, F.k ia = some o ∧ ItAt H1 (ab v) ys (i + 1) o ∧ FrIn env F m ∧ Base env (F0.put ia o) F ∧ St prog w F H s' ∧
              forL (fun H' => sameSrc H1 H' (ab v)) (fun y Q' m' H' => bindT xs y (fun m'' => bodyP Q' m'') m' H') oP Q (ys.drop (i + 1)) m H
          | .done f => Left prog w F0 env Q (flA f) s') ?_ fun fn s' z => ?_
        · refine wpAny_mono (tx_pyNext Ro It2 hF2 hia3 hsrc S2) (fun r s3 z => ?_) fun _ _ z => z.elim
          cases r with
          | none => obtain ⟨e, _⟩ := z; rw [List.getElem?_eq_getElem hlt] at e; cases e
          | some u =>
            obtain ⟨e, o3, It3, S3⟩ := z
            have hu : ys[i] = ab u := by rw [List.getElem?_eq_getElem hlt] at e; exact Option.some.inj e
            have I3 := I2.put hF2 hvs o3
            have B3 := B2.put hLn o3
            rw [FF.put_put] at B3
            rw [hu] at q2
            have BC3 : BaseC env (F0.put ia o3) := fun x c hx hc => by
              obtain ⟨c', oc, uu, a1, a2, a3⟩ := I3.holds x hx
              rw [hc] at a1; cases a1
              have : c ≠ ia := by
                rintro rfl
                rw [FF.put_self] at a2; cases a2
                obtain ⟨vs3, h3⟩ := It3.fields
                rw [h3] at a3; cases a3
              rw [FF.put_ne this]; exact BC x c hx hc
            refine letOwned It3 (S3.keepX (FF.put_self ..) It3.noFrame) ?_
            refine wpAny_mono (sx_target Ro hk BC3 ht q2 _ s3 I3 B3 S3) (fun _ s4 z => ?_) fun _ _ z => z.elim
            obtain ⟨F4, m4, H4, I4, B4, S4, q4⟩ := z
            refine wpAny_mono (hb _ Ro (F0.put ia o3) (ext0 o3) BC3 (fun F9 m9 I9 B9 => T0 F9 m9 I9 (unp B9)) m4 H4 _ q4 F4 s4 I4 B4 S4) (fun f s5 z => ?_) fun _ _ z => z.elim
            obtain ⟨F5, m5, H5, I5, B5, S5, q5⟩ := z
            cases f
            · exact ⟨rfl, F5, m5, H5, o3, B5.ext ia o3 (FF.put_self ..), It3, I5, B5, S5, q5⟩
            · exact ⟨F5, m5, H5, I5, unp B5, S5, q5⟩
            · exact ⟨rfl, F5, m5, H5, o3, B5.ext ia o3 (FF.put_self ..), It3, I5, B5, S5, q5⟩
            · exact ⟨F5, m5, H5, I5, unp B5, S5, q5⟩
        · cases fn with
          | again c' =>
            obtain ⟨rfl, F6, m6, H6, o6, a1, a2, a3, a4, a5, a6⟩ := z
            exact seg_again rfl (ih (i + 1) F6 m6 H6 o6 s' (by rw [List.length_drop] at hc ⊢; omega) a1 a2 a3 a4 a5 a6)
          | done f => exact fin _ f s' z
    exact loop ys.length 0 (F.put ia o) m H1 o _ rfl (FF.put_self ..) It (I.mono old rfl) (B.put hLn o) S2 q
  · exact q.elim

mutual
/-- a statement that holds a yield: its mini form returns what is yielded -/
def simG : S → Kinds → Stmt → Bool
  | .yld e, k, s => match s with | .Expr (.Yield (some v) _) _ => simE e k v | _ => false
  | .for1 xs it body orelse, k, s => match s with | .For t it' body' orelse' _ => tgt1 k xs t && noSet it' && simE it k it' && simSL body k body' && simGL orelse k orelse' | _ => false
  | .whl c body orelse, k, s => match s with | .While c' body' orelse' _ => simE c k c' && simGL body k body' && simSL orelse k orelse' | _ => false
  | _, _, _ => false
def simGL : SL → Kinds → List Stmt → Bool
  | .nil, _, ss => ss.isEmpty
  | .cons a r, k, ss => match ss with | s :: ss' => (simS a k s || simG a k s) && simGL r k ss' | [] => false
end

variable {Qy : AV → Hp → Prop}
mutual
theorem soundG (hY : YieldOk prog w Y s₀ env F0 Qy) (hco : env.scope.isCoroutine = false) (hi : interactive env = false) (hk0 : ∀ q, env.kindOf q = env.kindOf q) (BC : BaseC env F0) (T : StatB fs w env F0) : ∀ (x : S) (k : Kinds) (st : Stmt) (m : Loc) (H : Hp) (Q : Fl → Loc → Hp → Prop), simG x k st = true → (∀ q, env.kindOf q = k q) → RetOk Q Qy → semS (CX prog w n) x Q m H → GX prog w A R Y s₀ env F0 fs n (exec st env) Q m H
  | .yld e, k, st, m, H, Q, hs, hk, hQ, h => by
    unfold simG at hs
    split at hs
    · exact gx_yield hY hQ hco hi fun A' R' F I B => (soundX R' e k _ m env F hs hk I (T _ _ I B)).1 _ _ h
    · cases hs
  | .ret e, k, st, m, H, Q, hs, hk, hQ, h => by unfold simG at hs; cases hs
  | .for1 xs it body orelse, k, st, m, H, Q, hs, hk, hQ, h => by
    unfold simG at hs
    split at hs
    · simp only [Bool.and_eq_true] at hs
      obtain ⟨⟨⟨⟨h1, h2⟩, h3⟩, h4⟩, h5⟩ := hs
      exact gx_for hk BC T h1 h2 hQ (fun A' R' F0' hx BC' T' m H Q q => soundSL R' body k _ m H env F0' Q h4 hk BC' T' q) (fun m H Q hQ q => soundGL hY hco hi hk0 BC T orelse k _ m H Q h5 hk hQ q)
        fun A' R' F I B => (soundX R' it k _ m env F h3 hk I (T _ _ I B)).1 _ _ h
    · cases hs
  | .whl c body orelse, k, st, m, H, Q, hs, hk, hQ, h => by
    unfold simG at hs
    split at hs
    · simp only [Bool.and_eq_true] at hs
      exact gx_while hQ (fun A' R' F m H Q I B q => (soundX R' c k _ m env F hs.1.1 hk I (T _ _ I B)).2 _ _ q) (fun m H Q hQ q => soundGL hY hco hi hk0 BC T body k _ m H Q hs.1.2 hk hQ q) (fun A' R' m H Q q => soundSL R' orelse k _ m H env F0 Q hs.2 hk BC T q) h
    · cases hs
  | .expr e, k, st, m, H, Q, hs, hk, hQ, h => by unfold simG at hs; cases hs
  | .assign x e, k, st, m, H, Q, hs, hk, hQ, h => by unfold simG at hs; cases hs
  | .assignT x e, k, st, m, H, Q, hs, hk, hQ, h => by unfold simG at hs; cases hs
  | .assignAttr o nm e, k, st, m, H, Q, hs, hk, hQ, h => by unfold simG at hs; cases hs
  | .assignIdx o i e, k, st, m, H, Q, hs, hk, hQ, h => by unfold simG at hs; cases hs
  | .aug x op e, k, st, m, H, Q, hs, hk, hQ, h => by unfold simG at hs; cases hs
  | .ife c a b, k, st, m, H, Q, hs, hk, hQ, h => by unfold simG at hs; cases hs
  | .brk, k, st, m, H, Q, hs, hk, hQ, h => by unfold simG at hs; cases hs
  | .delIdx o i, k, st, m, H, Q, hs, hk, hQ, h => by unfold simG at hs; cases hs
  | .delFull o, k, st, m, H, Q, hs, hk, hQ, h => by unfold simG at hs; cases hs
  | .delTail o i, k, st, m, H, Q, hs, hk, hQ, h => by unfold simG at hs; cases hs
  | .bad, k, st, m, H, Q, hs, hk, hQ, h => False.elim h
theorem soundGL (hY : YieldOk prog w Y s₀ env F0 Qy) (hco : env.scope.isCoroutine = false) (hi : interactive env = false) (hk0 : ∀ q, env.kindOf q = env.kindOf q) (BC : BaseC env F0) (T : StatB fs w env F0) : ∀ (x : SL) (k : Kinds) (ss : List Stmt) (m : Loc) (H : Hp) (Q : Fl → Loc → Hp → Prop), simGL x k ss = true → (∀ q, env.kindOf q = k q) → RetOk Q Qy → semSL (CX prog w n) x Q m H → GX prog w A R Y s₀ env F0 fs n (execs ss env) Q m H
  | .nil, k, ss, m, H, Q, hs, hk, hQ, h => by
    unfold simGL at hs
    obtain rfl : ss = [] := by simpa using hs
    exact gx_nil h
  | .cons a r, k, ss, m, H, Q, hs, hk, hQ, h => by
    unfold simGL at hs
    split at hs
    · rename_i st ss'
      rw [Bool.and_eq_true, Bool.or_eq_true] at hs
      have hQ' : ∀ Q' : Fl → Loc → Hp → Prop, Q' = (fun fl m' H' => match fl with | .next => semSL (CX prog w n) r Q m' H' | fl => Q fl m' H') → RetOk Q' Qy := fun Q' e v m' H' z => by rw [e] at z; exact hQ v m' H' z
      refine gx_cons ?_
      have key : GX prog w A R Y s₀ env F0 fs n (exec st env) (fun fl m' H' => match fl with | .next => semSL (CX prog w n) r Q m' H' | fl => Q fl m' H') m H := by
        rcases hs.1 with h1 | h1
        · exact gx_sx fun A' R' => soundS R' a k _ m H env F0 _ h1 hk BC T h
        · exact soundG hY hco hi hk0 BC T a k _ m H _ h1 hk (hQ' _ rfl) h
      intro c fr R' h1 h2 F s K Hh gd lv hg I B S hK
      refine key c fr R' h1 h2 F s K Hh gd lv hg I B S fun f s' z => hK f s' ?_
      obtain ⟨F', m', H', I', B', S', q⟩ := z
      refine ⟨F', m', H', I', B', S', ?_⟩
      cases f
      · exact soundGL hY hco hi hk0 BC T r k _ m' H' Q hs.2 hk hQ q
      · exact q
      · exact q
      · exact q
    · cases hs
end
end
end Csp

namespace Csp
open PySem PySem.W PySem.Calls PyProof.Rows PySem.SeqAt Builtin Builtin.ObjectAttr
/-- BacktrackingSolver.getSolutionIter: its first yield ends the run -/
def b169g : SL := (.cons (.assign "forwardcheck" (.attr (.loc "self") "_forwardcheck")) (.cons (.assign "assignments" .dict0) (.cons (.assign "queue" (.list .nil)) (.cons (.whl (.lit (.bool true)) (.cons (.assign "lst" (.comp (.tup (.cons (.neg (.bi .len (.cons (.idx (.loc "vconstraints") (.loc "variable")) .nil))) (.cons (.bi .len (.cons (.idx (.loc "domains") (.loc "variable")) .nil)) (.cons (.loc "variable") .nil)))) "variable" (.loc "domains") .nil)) (.cons (.expr (.meth (.loc "lst") "sort" .nil)) (.cons (.for1 ["item"] (.loc "lst") (.cons (.ife (.cmp .NotIn (.idx (.loc "item") (.neg (.lit (.int 1)))) (.loc "assignments")) (.cons (.assign "variable" (.idx (.loc "item") (.neg (.lit (.int 1))))) (.cons (.assign "values" (.full (.idx (.loc "domains") (.loc "variable")))) (.cons (.ife (.loc "forwardcheck") (.cons (.assign "pushdomains" (.comp (.idx (.loc "domains") (.loc "x")) "x" (.loc "domains") (.cons (.and2 (.cmp .NotIn (.loc "x") (.loc "assignments")) (.cmp .NotEq (.loc "x") (.loc "variable"))) .nil))) .nil) (.cons (.assign "pushdomains" (.lit .none)) .nil)) (.cons .brk .nil)))) .nil) .nil) (.cons (.yld (.meth (.loc "assignments") "copy" .nil)) (.cons (.ife (.not (.loc "queue")) (.cons (.ret (.lit .none)) .nil) .nil) (.cons (.assignT ["variable", "values", "pushdomains"] (.meth (.loc "queue") "pop" .nil)) (.cons (.ife (.loc "pushdomains") (.cons (.for1 ["domain"] (.loc "pushdomains") (.cons (.expr (.meth (.loc "domain") "popState" .nil)) .nil) .nil) .nil) .nil) .nil))))) (.cons (.whl (.lit (.bool true)) (.cons (.ife (.not (.loc "values")) (.cons (.delIdx (.loc "assignments") (.loc "variable")) (.cons (.whl (.loc "queue") (.cons (.assignT ["variable", "values", "pushdomains"] (.meth (.loc "queue") "pop" .nil)) (.cons (.ife (.loc "pushdomains") (.cons (.for1 ["domain"] (.loc "pushdomains") (.cons (.expr (.meth (.loc "domain") "popState" .nil)) .nil) .nil) .nil) .nil) (.cons (.ife (.loc "values") (.cons .brk .nil) .nil) (.cons (.delIdx (.loc "assignments") (.loc "variable")) .nil)))) (.cons (.ret (.lit .none)) .nil)) .nil)) .nil) (.cons (.assignIdx (.loc "assignments") (.loc "variable") (.meth (.loc "values") "pop" .nil)) (.cons (.ife (.loc "pushdomains") (.cons (.for1 ["domain"] (.loc "pushdomains") (.cons (.expr (.meth (.loc "domain") "pushState" .nil)) .nil) .nil) .nil) .nil) (.cons (.for1 ["constraint", "variables"] (.idx (.loc "vconstraints") (.loc "variable")) (.cons (.ife (.not (.call (.loc "constraint") (.cons (.loc "variables") (.cons (.loc "domains") (.cons (.loc "assignments") (.cons (.loc "pushdomains") .nil)))))) (.cons .brk .nil) .nil) .nil) (.cons .brk .nil)) (.cons (.ife (.loc "pushdomains") (.cons (.for1 ["domain"] (.loc "pushdomains") (.cons (.expr (.meth (.loc "domain") "popState" .nil)) .nil) .nil) .nil) .nil) .nil))))) .nil) (.cons (.expr (.meth (.loc "queue") "append" (.cons (.tup (.cons (.loc "variable") (.cons (.loc "values") (.cons (.loc "pushdomains") .nil)))) .nil))) .nil))))) .nil) (.cons .bad .nil)))))
/-- what a generator function's object must be -/
def gdOk (K : Frag) (fd : FuncData) (body : SL) : Bool :=
  fd.globals == mainGlobals && fd.builtins == builtinsNs && fd.closure.isEmpty && !fd.scope.isCoroutine && fd.scope.isGenerator && fd.scope.kind == .function && codeIn K fd.code fd.qualname && (fd.scope.names.all fun p => p.2 != .free) &&
    (match fd.body with | .stmts ss => simGL body (fun q => fd.scope.names.lookup q) ss | _ => false)
noncomputable def gnOk (w : World) (f : Addr) (body : SL) : Bool := (fdAt (KK w) f).any fun fd => gdOk (KK w) fd body
theorem ok169 (w : World) : gnOk w 169 b169g = true := by kernel_rfl
section
variable (w : World) (a b c d : Value)
theorem bind_169 : Binds w 169 [a, b, c, d] [("self", a), ("domains", b), ("constraints", c), ("vconstraints", d)] := by intro S; kernel_rfl
theorem bind_176 : Binds w 176 [a, b, c, d] [("self", a), ("domains", b), ("constraints", c), ("vconstraints", d)] := by intro S; kernel_rfl
end
end Csp

namespace Csp
open PySem PySem.W PySem.Calls PyProof.Rows PySem.SeqAt Builtin Builtin.ObjectAttr

section
variable {prog : Program} {w : World} {fs : List Env} {A : Around} {F F0 : FF} {H : Hp} {s : Shared} {n : Nat} {env : Env} {m : Loc}

/-- a tree with any end -/
def TG {α : Type} (prog : Program) (w : World) (A : Around) (F : FF) (t : Sem α) (P : α → Shared → Prop) (E : Value → Shared → Prop) (H : Hp) : Prop := ∀ s, St prog w F H s → wpAny (model prog w) A t P E s
theorem tg_bind {α β : Type} {t : Sem α} {f : α → Sem β} {P : β → Shared → Prop} {E : Value → Shared → Prop} (h : TX prog w A F t (fun a H' => TG prog w A F (f a) P E H') H) : TG prog w A F (t >>= f) P E H := fun s S =>
  wpAny_bind (wpAny_mono (h s S) (fun a s' ⟨H', S', q⟩ => q s' S') fun _ _ z => z.elim)

theorem tg_callWith {pos : Pos} {f : Value} {first : List Value} {args : List (Bool × Sem Value)} {P : Value → Shared → Prop} {E : Value → Shared → Prop} (hplain : args.any (·.1) = false)
    (h : TX prog w A F (spliced args) (fun vs H' => Kept prog w F f H' ∧ TG prog w A F (call f (first ++ vs)) P E H') H) : TG prog w A F (callWith pos f first args []) P E H := by
  unfold callWith
  refine tg_bind (TX.holding (TX.mono (tx_evalArgs (Q := fun a H' => a.kw = [] ∧ Kept prog w F f H' ∧ TG prog w A F (call f (first ++ a.pos)) P E H') hplain (TX.mono h fun vs H' q => ⟨rfl, q⟩)) fun a H' q => ?_))
  obtain ⟨hkw, hk, hc⟩ := q
  refine tg_bind (TX.standAt ?_)
  intro s S
  obtain ⟨k, L⟩ := hk s S
  simp only [hplain, List.any_nil, Bool.or_false, hkw]
  refine wpAny_bind (L.here ?_)
  have tail : ∀ (t : Sem Value), TG prog w A F t P E H' → wpAny (model prog w) A (t >>= fun r => holding [r] point >>= fun _ => pure r) P E s :=
    fun t ht => wpAny_bind (wpAny_mono (ht s S) (fun r s' q => wpAny_bind (wpAny_holding (wpAny_point (wpAny_pure q)))) fun _ _ z => z)
  have marked (mk : Value) : TG prog w A F (callMarked mk f (first ++ a.pos) []) P E H' := by
    intro s S; unfold callMarked; exact Calls.wpAny_keep (hc s S)
  have oper (vs : List Value) (t : Sem Value) (ht : TG prog w A F t P E H') : TG prog w A F (operate vs t) P E H' := fun s S =>
    wpAny_bind (wpAny_holding (wpAny_mono (ht s S) (fun r s' q => wpAny_bind (wpAny_release (wpAny_pure q))) fun _ _ z => z))
  cases k <;> dsimp only <;> first | exact tail _ hc | exact tail _ (oper _ _ hc) | (split <;> first | exact tail _ hc | exact tail _ (marked _))

theorem tg_meth (T : Stat fs w F) {o : Expr} {nm : String} {es : List Expr} {pos apos : Pos} {P : Value → Shared → Prop} {E : Value → Shared → Prop} (hc : noCall o = true) (hp : plainL es = true) (hl : es.length < 30) (hpos : (apos.endLine == pos.line) = true)
    (h : TV prog w A F env o (fun ov => fun H1 => ∃ me, methOf H1 ov nm = some me ∧ ∀ (ovv : Value) p, ab ovv = ov → MeOk me ovv p → TL prog w A F env es (fun vs => fun H2 => Kept prog w F p.1 H2 ∧ ∀ vv : List Value, vv.map ab = vs → TG prog w A F (call p.1 (p.2 ++ vv)) P E H2) H1) H) :
    TG prog w A F (eval (.Call (.Attribute o (Str.ofString nm) apos) es [] pos) env) P E H := by
  show TG prog w A F (attributeBase o (Str.ofString nm) env (eval o env) >>= _) _ _ H
  rw [whole_of hc]
  refine tg_bind (TX.mono h fun ov H1 q => tg_bind (TX.standAt ?_))
  obtain ⟨me, hm, q⟩ := q
  have few : methodCallForm (es.length + ([] : List Keyword).length) (backTo pos (starEach es env)) (backToKw pos (keywordEach [] env)) = true := by
    unfold methodCallForm
    have h1 : (backTo pos (starEach es env)).all (fun x => !x.1) = true := by
      have := plain_any (env := env) hp pos
      rw [List.any_eq_false] at this
      exact List.all_eq_true.mpr fun x hx => by simpa using this x hx
    rw [h1]
    have h2 : backToKw pos (keywordEach [] env) = [] := rfl
    rw [h2]
    simpa using hl
  unfold methodCall
  rw [few]
  refine tg_bind (TX.holding (TX.mono (tx_getMethod (Q := fun p H' => H' = H1 ∧ MeOk me ov p) T hm fun p hp => ⟨rfl, hp⟩) fun p H2 z => ?_))
  obtain ⟨rfl, hpm⟩ := z
  have hcp : methodCallPos true o env apos pos = pure pos := by
    unfold methodCallPos
    rw [hpos]; rfl
  rw [hcp]
  refine tg_bind (TX.pure ?_)
  exact tg_callWith (plain_any hp pos) (TX.mono (q ov p rfl hpm pos) fun vs H2 z => ⟨z.1, z.2 vs rfl⟩)
end
end Csp

namespace Csp
open PySem PySem.W PySem.Calls PyProof.Rows PySem.SeqAt Builtin Builtin.ObjectAttr

/-- the object of a generator -/
def genO (g : Nat) (nm qn : Str) (t u : Tok) : Obj := { cls := .type "generator", data := .fields #[.int g 0, .str nm t, .str qn u] }

section
variable {prog : Program} {w : World} {fs : List Env} {A : Around} {F F0 : FF} {H : Hp} {s : Shared} {n : Nat} {env : Env} {m : Loc}

theorem St.gensTo (S : St prog w F H s) {G : Array GenState} (h : AllBare G) : St prog w F H { s with gens := G } := ⟨S.keep, S.own, S.top, S.sa, h, S.os⟩

/-- a call of a generator function: the generator stands ready -/
theorem raw_gen (T : Stat fs w F) (R : Room fs A (n + 1)) (S : St prog w F H s) {f : Addr} {body : SL} (hf : gnOk w f body = true) {vv : List Value} {bs : List (String × Value)} (hbs : Binds w f vv bs) (hm : m = locOf (bs.map fun p => (p.1, ab p.2)))
    {Rr : Result → Shared → Prop}
    (h : ∀ (genv : Env) (ga : Addr) (F1 : FF) (ss : List Stmt) (s' : Shared) (nm qn : Str) (t u : Tok), FrIn genv F1 m → Base genv F F1 → BaseC genv F → genv.frame = some genv.locals → genv.scope.isCoroutine = false → simGL body (fun q => genv.kindOf q) ss = true →
      St prog w F1 H s' → F.k ga = none → F1.k ga = some (genO s.gens.size nm qn t u) → ga ≠ genv.locals → s'.gens = s.gens.push (.fresh (.func ss genv)) → Rr (.ok (.ret (.ref ga))) s') : codeAny (model prog w) A (.call (.ref f) ⟨vv, []⟩) Rr s := by
  have X := T.inK S
  obtain ⟨fd, hfd, hok⟩ := W.any_some hf
  obtain ⟨c, d, sl, ho⟩ := fdAt_of hfd
  unfold gdOk at hok
  simp only [Bool.and_eq_true, beq_iff_eq, Bool.not_eq_true'] at hok
  obtain ⟨⟨⟨⟨⟨⟨⟨⟨k1, k2⟩, k3⟩, k4⟩, k5⟩, k6⟩, k7⟩, k8⟩, k9⟩ := hok
  split at k9
  · rename_i ss hss
    have k8 := List.all_eq_true.mp k8
    refine codeAny_call_generator R.le (X _ _ ho) rfl k4 k5 hss (codeRec_of X k7) ?_
    have hb0 := hbs ⟨(model prog w).prog, (model prog w).w.params⟩
    rw [hfd, Option.bind_some] at hb0
    split at hb0
    · rename_i hall
      have hall := List.all_eq_true.mp hall
      refine (Looks.of_peek (M := model prog w) X hb0).here ?_
      rw [show fd.closure = [] from by simpa using k3]
      have hkinds : ∀ p ∈ bs, fd.scope.names.lookup (Str.ofString p.1) = some .local ∨ fd.scope.names.lookup (Str.ofString p.1) = some .cell := fun p hp => by
        have := hall p hp
        simpa [Bool.or_eq_true, beq_iff_eq] using this
      have hcells : ∀ (k : Nat) x, fd.scope.names.lookup x = some .cell → ∃ c, (cellsFrom k fd.scope.names []).lookup x = some c := fun k x hx => by
        obtain ⟨c, hc⟩ := cellsFrom_has fd.scope.names k [] (.inl (mem_lookup hx))
        exact lookup_some_of_mem hc
      refine wpAny_newFunctionEnv_cells k6 (fun x hx => ?_) fun env he s1 Xc => ?_
      · obtain ⟨p, hp, rfl⟩ := List.mem_map.mp hx
        rcases hkinds p hp with q | q
        · exact .inl q
        · obtain ⟨c, hc⟩ := hcells (s.heap.objs.size + 1) _ q
          exact .inr ⟨q, by rw [hc]; rfl⟩
      · have hkf : ∀ q, env.kindOf q = fd.scope.names.lookup q := fun q => by rw [he]; rfl
        have hr := bind_rel env.kindOf bs (fun _ => none) (fun _ => none) (fun _ => none) (fun p hp => by rw [hkf]; exact hkinds p hp) (fun _ _ _ e => by cases e) (fun _ _ _ e => by cases e)
        obtain ⟨F', I, B, BC, S1⟩ := call_frame (m := m) S (env := env) (by rw [he]; exact k6) (by rw [he]; exact k1) (by rw [he]; exact k2)
          (fun x e => by rw [hkf] at e; have := k8 _ (mem_lookup e); simp at this) (fun x e => by rw [hkf] at e; rw [he]; exact hcells _ x e) Xc (by rw [hm]; exact hr.1) (by rw [hm]; exact hr.2)
        refine ⟨(no_limit T S).keeps Xc.toInCall.keep, ?_⟩
        have fga : F'.k s1.heap.objs.size = none := S1.freshF
        have hga : F.k s1.heap.objs.size = none := by
          cases e : F.k s1.heap.objs.size with
          | none => rfl
          | some q => rw [B.ext _ _ e] at fga; cases fga
        have hgs : s1.gens = s.gens := by obtain ⟨_, _, e⟩ := Xc.toInCall.same; rw [e]
        have S2 := (S1.newKnown (o := genO s1.gens.size fd.name fd.qualname s1.toks (s1.toks + 1)) (Nat.le_refl _) (fun _ _ e => Heap.get?_push_of_some _ e) (Heap.get?_push_size _ rfl) (s1.toks + 1 + 1)).gensTo (G := s1.gens.push (.fresh (.func ss env))) (AllBare.push S1.gens rfl)
        have old : ∀ a o, F'.k a = some o → (F'.put s1.heap.objs.size (genO s1.gens.size fd.name fd.qualname s1.toks (s1.toks + 1))).k a = some o := fun a o e => by
          rw [FF.put_ne (by rintro rfl; rw [fga] at e; cases e)]; exact e
        have hne : s1.heap.objs.size ≠ env.locals := by
          obtain ⟨oL, _, _, e, _⟩ := I.ns
          intro e2; rw [e2, e] at fga; cases fga
        refine h env s1.heap.objs.size _ ss _ fd.name fd.qualname s1.toks (s1.toks + 1) (I.mono old rfl) ⟨fun a o e => old a o (B.ext a o e), B.os, B.sa, B.off⟩ BC (by rw [he]; rfl) (by rw [he]; exact k4) (by rw [show (fun q => env.kindOf q) = (fun q => fd.scope.names.lookup q) from funext hkf]; exact k9) S2 hga (by rw [FF.put_self, hgs]) hne (by rw [hgs])
    · cases hb0
  · cases k9
end
end Csp

namespace Csp
open PySem PySem.W PySem.Calls PyProof.Rows PySem.SeqAt Builtin Builtin.ObjectAttr

theorem AllBare.set {gens : Array GenState} {g : Nat} {x : GenState} (h : AllBare gens) (hx : x.bare = true) : AllBare (gens.setIfInBounds g x) := by
  intro y hy
  obtain ⟨i, hi, rfl⟩ := Array.mem_iff_getElem.mp hy
  have hi' : i < gens.size := by simpa using hi
  by_cases e : g = i
  · subst e
    rw [Array.getElem_setIfInBounds_self]
    exact hx
  · rw [Array.getElem_setIfInBounds_ne (h := e)]
    · exact h _ (Array.getElem_mem _)
    · exact hi'

section
variable {prog : Program} {w : World} {fs : List Env} {A : Around} {F F0 Fb : FF} {H : Hp} {s : Shared} {n : Nat} {genv : Env} {m : Loc}

theorem St.setGen (S : St prog w F H s) {g : Nat} {x : GenState} (hx : x.bare = true) : St prog w F H (s.setGen g x) := S.gensTo (AllBare.set S.gens hx)

/-- a new exception, not yet seen by any frame -/
def NewExc (F : FF) (H : Hp) (s : Shared) (ea : Addr) : Prop :=
  ∃ oe vs a0, s.heap.get? ea = some oe ∧ oe.cls = .type "StopIteration" ∧ oe.data = .fields vs ∧ vs[0]? = some a0 ∧ vs[1]? = some .none ∧ F.k ea = none ∧ H ea = none

/-- what the generator's run means -/
def gQ (Qn : Hp → Prop) (Qy : AV → Hp → Prop) (fl : Fl) (H' : Hp) : Prop := match fl with
  | .ret .none => Qn H'
  | .ret (.other (.ref a)) => Qy (.ref a) H'
  | _ => False

theorem raw_next (R : Room fs A (n + 1)) (T : Stat fs w Fb) {ga : Addr} {g : Nat} {nm qn : Str} {t u : Tok} {body : SL} {ss : List Stmt} {Qn : Hp → Prop} {Qy : AV → Hp → Prop} (S : St prog w F H s) (hF : F.k ga = some (genO g nm qn t u)) (hg : s.gens[g]? = some (.fresh (.func ss genv)))
    (I : FrIn genv F m) (B : Base genv Fb F) (BC : BaseC genv Fb) (hfr : genv.frame = some genv.locals) (hco : genv.scope.isCoroutine = false) (hsim : simGL body (fun q => genv.kindOf q) ss = true)
    (hsem : semSL (CX prog w n) body (fun fl _ H' => gQ Qn Qy fl H') m H) :
    wpAny (model prog w) A (call (.builtin "next") [.ref ga]) (fun v s' => ∃ F' H', St prog w F' H' s' ∧ Base genv Fb F' ∧ Qy (ab v) H') (fun e s' => ∃ ea F' H', e = .ref ea ∧ St prog w F' H' s' ∧ Base genv Fb F' ∧ Qn H' ∧ NewExc F' H' s' ea) s := by
  have hgo := S.keepX hF (by intro e; exact absurd (Value.type.inj (show Value.type "generator" = .type "frame" from e)) (by decide))
  have hgen : s.heap.IsGen ga g := ⟨_, _, _, hgo, rfl, rfl, rfl⟩
  have TF := T.mono B.ext B.os
  have hl := no_limit TF S
  have hh := R.handled
  have Ro : Room (genv :: fs) (A.in1.in1.over (.func ss genv) []) n := ⟨by show A.depth + 0 + 1 + 10 * n < 900; have := R.depth; omega, by show A.units + 1 + 1 + 0 + 3 + 100 * n < 9000; have := R.units; omega, R.handled, by show A.frames.map ([genv] ++ ·) = _; rw [R.frames]; rfl⟩
  refine call_function_entry (by decide +kernel) (by decide +kernel) kdk_entry_next (kdk_args_next _) ?_
  unfold Builtin.«next»
  refine wpAny_bind (m := someArgs "next" 1 2 _) (wpAny_of_eq (a := [Value.ref ga]) (by first | rfl | kernel_rfl!) ?_)
  dsimp only
  refine wpAny_bind (wpAny_specialOf (name := Str.ofString "__next__") hgen.typeIs slot_gen_next.lookup ?_)
  refine wpAny_ite_split (fun hab => absurd hab (by decide)) (fun _ => ?_)
  refine wpAny_bind (wpAny_callSpecial?_slot (name := Str.ofString "__next__") hgen.typeIs slot_gen_next (wpAny_call_entry slot_gen_next hgen.typeIs entry_gen_next ?_ (args_gen_next _)))
  show wpAny _ A.in1.in1 (Builtin.Generator.genWake (.ref ga) (.send .none)) _ _ s
  unfold Builtin.Generator.genWake
  refine wpAny_bind (wpAny_holding (wpAny_genNumber hgen (wpAny_bind (wpAny_genState hg ?_))))
  refine wpAny_bind (wpAny_roomToWake hl R.le ?_)
  show wpAny _ A.in1.in1 (.resume g (.send .none) [] _) _ _ s
  let R1 : GenEnd := fun _ _ r s₁ => r = .ok (.ret .none) ∧ ∃ F' H', St prog w F' H' s₁ ∧ Base genv Fb F' ∧ Qn H'
  let Y1 : Protocol := fun _ _ v s' _ => ∃ F' H', St prog w F' H' s' ∧ Base genv Fb F' ∧ Qy (ab v) H'
  refine wpAny_resumeQ (n := 1) (R := R1) (Y := Y1) hg ⟨rfl, ?_⟩ (fun x s₁ hx => ?_) (fun v s₁ gs' hb hv => ?_)
  · refine seg_func ?_
    have hi : interactive genv = false := no_inter I
    have hY : YieldOk prog w Y1 (s.setGen g .running) genv Fb Qy := fun v s' kap ⟨F', m', H', _, B', S', q⟩ => ⟨F', H', S', B', q⟩
    have GG := soundGL (prog := prog) (w := w) (A := A.in1.in1) (R := R1) (Y := Y1) (s₀ := s.setGen g .running) (n := n) (fs := genv :: fs) (Qy := Qy) hY hco hi (fun _ => rfl) BC (statB T hfr) body (fun q => genv.kindOf q) ss m H (fun fl _ H' => gQ Qn Qy fl H') hsim (fun _ => rfl) (fun a m' H' z => z) hsem
    refine GG (.func ss genv) [] Ro rfl rfl F (s.setGen g .running) _ _ (fun x => x) (fun x => x) rfl I B (S.setGen rfl) fun f s' z => ?_
    obtain ⟨F', m', H', I', B', S', q⟩ := z
    cases f with
    | ret v =>
      have q' : gQ Qn Qy (.ret (ab v)) H' := q
      unfold gQ at q'
      split at q'
      · rename_i e
        injection e with e
        obtain rfl := ab_none e
        exact seg_end (.ok (.ret .none)) ⟨rfl, F', H', S', B', q'⟩
      · rename_i a e
        injection e with e
        have := ab_other e
        subst this
        cases e
      · exact q'.elim
    | _ => exact q.elim
  · obtain ⟨rfl, F', H', S1, B1, hq⟩ := hx
    show wpAny _ A.in1.in1 (newExc (.type "StopIteration") [] >>= _) _ _ _
    refine wpAny_bind ?_
    simp only [newExc, newTuple]
    refine wpAny_bind (wpAny_newObj_type ?_ (by size_fits))
    refine wpAny_bind (m := firstArgMember _ _) (wpAny_of_eq (a := Value.none) (by first | rfl | (simp only [firstArgMember]; rfl)) ?_)
    refine wpAny_newObj_type ?_ (by size_fits)
    simp only [raiseNew]
    refine wpAny_bind (wpAny_bind (wpAny_handled ?_))
    rw [show A.in1.in1.handled = none from hh]
    refine wpAny_throw ?_
    have S2 := (S1.setGen (g := g) (x := .finished) rfl).push { cls := .type "tuple", data := .seq ([] : List Value).toArray }
    have f1 := S2.freshF
    have f2 := S2.fresh0
    exact ⟨_, F', H', rfl, S2.push _, B1, hq, _, _, _, Heap.get?_push_size _ rfl, rfl, rfl, rfl, rfl, f1, f2⟩
  · obtain ⟨F', H', S1, B1, hq⟩ := hv
    show wpAny _ A.in1.in1 (ret v) _ _ _
    exact wpAny_pure ⟨v, rfl, wpAny_pure ⟨v, rfl, F', H', S1.setGen hb, B1, hq⟩⟩
end
end Csp

namespace Csp
open PySem PySem.W PySem.Calls PyProof.Rows PySem.SeqAt Builtin Builtin.ObjectAttr

section
variable {prog : Program} {w : World} {fs : List Env} {A : Around} {F F0 Fb : FF} {H : Hp} {s : Shared} {n : Nat} {env : Env} {m : Loc}

/-- frames took on new slots, and one object that is not known changed -/
theorem St.loose (S : St prog w F H s) {h' : Heap} {Ls : List Addr} {ea : Addr} (h1 : ∀ b o, b ∉ Ls → b ≠ ea → s.heap.get? b = some o → h'.get? b = some o) (h2 : ∀ L ∈ Ls, ∀ o, s.heap.get? L = some o → ∃ o', h'.get? L = some o' ∧ o'.data = o.data)
    (hL : ∀ L ∈ Ls, ∃ o, F.k L = some o ∧ (∃ es ep, o.data = .dict es ep) ∧ o.cls = .type "frame" ∧ o.dict = some F.os.2) (hf : F.k ea = none) (hh : H ea = none) : St prog w F H { s with heap := h' } := by
  have hn : ∀ L ∈ Ls, H L = none := fun L m => by
    obtain ⟨o, k1, ⟨es, ep, k2⟩, _⟩ := hL L m
    exact S.noOwn k1 (fun _ _ e => by rw [k2] at e; cases e)
  refine ⟨fun a o e => ?_, fun a x e => ?_, S.top, S.sa, S.gens, S.os⟩
  · have ne : a ≠ ea := by rintro rfl; rw [hf] at e; cases e
    obtain ⟨o1, g1, g2⟩ := S.keep a o e
    by_cases m : a ∈ Ls
    · obtain ⟨o2, k1, _, k3⟩ := hL a m
      rw [e] at k1; cases k1
      obtain ⟨o', j1, j2⟩ := h2 a m o1 g1
      exact ⟨o', j1, .inr ⟨k3.1, k3.2, j2.trans g2.data⟩⟩
    · exact ⟨o1, h1 a o1 m ne g1, g2⟩
  · have ne : a ≠ ea := by rintro rfl; rw [hh] at e; cases e
    have m : a ∉ Ls := fun m => by rw [hn a m] at e; cases e
    obtain ⟨o, g1, g2⟩ := S.own a x e
    exact ⟨o, h1 a o m ne g1, g2⟩

def liveF (F : FF) (l : List Env) : Prop := ∀ env ∈ l, env.scope.kind ≠ .module ∧ ∃ L o, env.frame = some L ∧ F.k L = some o ∧ (∃ es ep, o.data = .dict es ep) ∧ o.cls = .type "frame" ∧ o.dict = some F.os.2
theorem funFrames_of (S : St prog w F H s) {base : Heap} : ∀ {l : List Env}, liveF F l → (∀ L ∈ l.filterMap (·.frame), base.get? L = none) → s.heap.FunFrames base l
  | [], _, _ => trivial
  | env :: l, h, hb => by
    obtain ⟨k1, L, o, k2, k3, ⟨es, ep, k4⟩, _⟩ := h env (by simp)
    obtain ⟨o', g1, g2⟩ := S.keepD k3
    refine ⟨k1, ⟨L, o', k2, hb L (by simp [k2]), g1, fun vs e => by rw [g2, k4] at e; cases e⟩, funFrames_of S (fun e he => h e (by simp [he])) fun L hL => hb L ?_⟩
    rw [List.filterMap_cons, k2]
    exact List.mem_cons_of_mem _ hL

/-- an exception that the frame's own try meets: the frames stand ready, the exception is no longer in flight -/
theorem met {e : Addr} {Q : Unit → Shared → Prop} {E : Value → Shared → Prop} (hfr : A.frames = some (env :: fs)) (hf : env.frame = some env.locals) (S : St prog w F H s) (hl : liveF F (env :: fs)) (hN : NewExc F H s e)
    (h : ∀ h1 base, St prog w F H { s with heap := h1 } → base.StaysIn h1 → h1.FunFrames base (env :: fs) → (∃ a0, h1.TracedW base e (.type "StopIteration") a0) →
      (∀ h' : Heap, base.StaysIn h' → (∀ b o, h1.get? b = some o → (∀ vs, o.data ≠ .fields vs) → ∃ sl, h'.get? b = some { o with slots := sl }) → St prog w F H { s with heap := h' }) → Q () { s with heap := h1 }) :
    wpAny (model prog w) A (noteFrame (.ref e) env) (fun _ s2 => wpAny (model prog w) A (setFlight (.ref e) none) Q E s2) E s := by
  obtain ⟨oe, vs, a0, he, hc, hd, h0, h1, hFe, hHe⟩ := hN
  have hLs : ∀ L ∈ (env :: fs).filterMap (·.frame), ∃ o, F.k L = some o ∧ (∃ es ep, o.data = .dict es ep) ∧ o.cls = .type "frame" ∧ o.dict = some F.os.2 := fun L hL => by
    obtain ⟨x, hx, e1⟩ := List.mem_filterMap.mp hL
    obtain ⟨_, L', o, k2, k3, k4, k5⟩ := hl x hx
    rw [e1] at k2; cases k2
    exact ⟨o, k3, k4, k5⟩
  let base := TI.gone s.heap (e :: (env :: fs).filterMap (·.frame))
  have hen : base.get? e = none := TI.gone_none (List.mem_cons_self)
  have hbL : ∀ L ∈ (env :: fs).filterMap (·.frame), base.get? L = none := fun L hL => TI.gone_none (List.mem_cons_of_mem _ hL)
  have hkb : base.StaysIn s.heap := fun b o hb => (TI.gone_some hb).2
  have hbo : ∀ b o, s.heap.get? b = some o → b ∉ (env :: fs).filterMap (·.frame) → b ≠ e → base.get? b = some o := fun b o hb n1 n2 => by
    rw [show base.get? b = s.heap.get? b from TI.gone_get (by simp only [List.mem_cons, not_or]; exact ⟨n2, n1⟩)]; exact hb
  have hFF := funFrames_of S (base := base) hl hbL
  have nf : ∀ L ∈ (env :: fs).filterMap (·.frame), ∀ o, s.heap.get? L = some o → ∀ vs, o.data ≠ .fields vs := fun L hL o ho vs e1 => by
    obtain ⟨o1, k1, ⟨es, ep, k2⟩, _⟩ := hLs L hL
    obtain ⟨o2, g1, g2⟩ := S.keepD k1
    rw [ho] at g1; cases g1
    rw [g2, k2] at e1; cases e1
  -- a heap that differs from this one in what the frames and the exception are
  have back : ∀ h' : Heap, base.StaysIn h' → (∀ b o, s.heap.get? b = some o → (∀ vs, o.data ≠ .fields vs) → ∃ sl, h'.get? b = some { o with slots := sl }) → St prog w F H { s with heap := h' } := fun h' k1 k2 =>
    S.loose (Ls := (env :: fs).filterMap (·.frame)) (ea := e) (fun b o n1 n2 hb => k1 b o (hbo b o hb n1 n2)) (fun L hL o ho => by
      obtain ⟨sl, hs⟩ := k2 L o ho (nf L hL o ho)
      exact ⟨_, hs, rfl⟩) hLs hFe hHe
  unfold noteFrame
  simp only [hf]
  refine wpAny_bind (wpAny_field he hd h1 ?_)
  rw [if_neg (by decide)]
  refine wpAny_entryW hfr hFF hf he hkb hen hd (Array.getElem?_eq_some_iff.mp h1).1 h0 fun h' ⟨n1, n2, n3, n4⟩ => ?_
  rw [hc] at n3
  refine wpAny_setFlight_noneW (base := base) (l := env :: fs) n1 n2 n3 fun h2 m1 m2 m3 m4 => ?_
  have up : ∀ b o, s.heap.get? b = some o → (∀ vs, o.data ≠ .fields vs) → ∃ sl, h2.get? b = some { o with slots := sl } := fun b o hb hn => by
    obtain ⟨sl, hs⟩ := n4 b o hb hn
    exact ⟨sl, m4 b _ hs hn⟩
  refine h _ base (back h2 m1 up) m1 m2 ⟨a0, m3⟩ fun h' k1 k2 => back h' k1 fun b o hb hn => ?_
  obtain ⟨sl, hs⟩ := up b o hb hn
  obtain ⟨sl', hs'⟩ := k2 b _ hs hn
  exact ⟨sl', hs'⟩
end
end Csp

namespace Csp
open PySem PySem.W PySem.Calls PyProof.Rows PySem.SeqAt Builtin Builtin.ObjectAttr

theorem k_stop (w : World) : gval w "StopIteration" = some (.type "StopIteration") ∧ gval w "next" = some (.builtin "next") := by constructor <;> kernel_rfl

section
variable {prog : Program} {w : World} {fs : List Env} {A : Around} {F F0 Fb : FF} {H : Hp} {s : Shared} {n : Nat} {env : Env} {m : Loc}

theorem raw_global (I : FrIn env F m) (T : Stat fs w F) (S : St prog w F H s) {x : String} {v : Value} {pos : Pos} {Q : Value → Shared → Prop} {E : Value → Shared → Prop} (hk : env.kindOf (Str.ofString x) = some .globalImplicit) (hn : (Str.ofString x == ("__debug__" : Str)) = false)
    (hv : gval w x = some v) (h : Q v s) : wpAny (model prog w) A (eval (.Name (Str.ofString x) pos) env) Q E s := by
  refine Name_function_global I.kind hk ?_ hn
  have X := T.inK S
  unfold gval at hv
  unfold loadGlobal
  rw [I.glob, I.blt]
  split at hv
  · rename_i u e
    cases hv
    exact wpAny_bind ((looks_nsIn X e).here (wpAny_pure h))
  · rename_i e
    split at hv
    · cases hv
    · rename_i hne
      obtain ⟨o, es, ep, h1, h2, h3, h4⟩ := T.bi
      obtain ⟨o', g1, g2⟩ := S.keepD h1
      refine wpAny_bind ((looks_nsIn X e).here (wpAny_bind (wpAny_nsGet (m := nsFind es) ⟨o', es, ep, g1, g2.trans h2, h3, fun _ => rfl⟩ ?_)))
      rw [h4 _ (fun q => hne (by rw [q]; exact beq_self_eq_true _)), hv]
      exact wpAny_pure h
  · cases hv

theorem raw_local (I : FrIn env F m) (S : St prog w F H s) {x : String} {v : AV} {pos : Pos} {Q : Value → Shared → Prop} {E : Value → Shared → Prop} (hk : env.kindOf (Str.ofString x) = some .local)
    (hn : (Str.ofString x == ("__debug__" : Str)) = false) (hm : m x = some v) (h : ∀ u, ab u = v → Q u s) : wpAny (model prog w) A (eval (.Name (Str.ofString x) pos) env) Q E s := by
  refine wpAny_Name ?_ hn
  obtain ⟨mm, h1, h2⟩ := I.nsAt S
  obtain ⟨u, e1, e2⟩ := h2 x v hk hm
  exact wpAny_loadName_local I.kind hk h1 e1 (h u e2)

/-- try: ... except StopIteration: return None, from the exception on -/
theorem caught {e : Addr} {Q : Flow → Shared → Prop} {E : Value → Shared → Prop} {x : String} {np cp rp hp : Pos} {kk} (hfr : A.frames = some (env :: fs)) (hf : env.frame = some env.locals) (I : FrIn env F m) (T : Stat (env :: fs) w F) (S : St prog w F H s) (hN : NewExc F H s e)
    (hx : x = "StopIteration") (hk : env.kindOf (Str.ofString x) = some .globalImplicit) (h : ∀ s', St prog w F H s' → Q (.ret .none) s') :
    wpAny (model prog w) A (noteFrame (.ref e) env) (fun _ s2 => wpAny (model prog w) A (setFlight (.ref e) none) (fun _ s3 => wpAny (model prog w) A (handleBy (.ref e) env [.ExceptHandler (some (.Name (Str.ofString x) np)) none [.Return (some (.Constant .none kk cp)) rp] hp]) Q E s3) E s2) E s := by
  refine met hfr hf S (fun e he => T.live e he) hN fun h1 base S1 k1 k2 ⟨a0, k3⟩ k4 => ?_
  subst hx
  refine wpAny_handleBy_builtin (X := "StopIteration") (T := "StopIteration") (b := true) owsi_raise.isExc (by rw [isSubtype_type]; kernel_rfl) isSubtype_stop ?_
  refine raw_global I T S1 hk (by decide) (k_stop w).1 ⟨rfl, ?_, ?_⟩
  · obtain ⟨oe, vs, _, _, _, he, ⟨hc, _⟩, _⟩ := k3
    exact ⟨oe, he, hc⟩
  · rw [if_pos rfl]
    refine wpAny_setFlight_noneW (base := base) (l := env :: fs) k1 k2 k3.at fun h2 m1 m2 m3 m4 => ?_
    refine wpAny_execs_cons (wpAny_Return_some (show wpAny _ _ (constValue env .none) _ _ _ from wpAny_pure ?_))
    exact h _ (k4 h2 m1 fun b o hb hn => ⟨o.slots, m4 b o hb hn⟩)
end
end Csp

namespace Csp
open PySem PySem.W PySem.Calls PyProof.Rows PySem.SeqAt Builtin Builtin.ObjectAttr

def args169 : EL := .cons (.loc "domains") (.cons (.loc "constraints") (.cons (.loc "vconstraints") .nil))
/-- the body of BacktrackingSolver.getSolution -/
def sim176 (k : Kinds) : List Stmt → Bool
  | [.Assign [.Name x1 _] (.Call (.Attribute o a ap) es [] cp) sp, .Try [.Return (some (.Call (.Name nx _) [.Name x2 _] [] _)) _] [.ExceptHandler (some (.Name st _)) none [.Return (some (.Constant .none _ _)) _] _] [] [] _] =>
    x1 == Str.ofString "iter" && x2 == Str.ofString "iter" && k (Str.ofString "iter") == some .local && a == Str.ofString "getSolutionIter" && noCall o && decide (es.length < 30) && (ap.endLine == cp.line) && simE (.loc "self") k o && simL args169 k es &&
    nx == Str.ofString "next" && k (Str.ofString "next") == some .globalImplicit && st == Str.ofString "StopIteration" && k (Str.ofString "StopIteration") == some .globalImplicit
  | _ => false
def fd176 (K : Frag) (fd : FuncData) : Bool :=
  fd.globals == mainGlobals && fd.builtins == builtinsNs && fd.closure.isEmpty && !fd.scope.isCoroutine && !fd.scope.isGenerator && fd.scope.kind == .function && codeIn K fd.code fd.qualname && (fd.scope.names.all fun p => p.2 != .free) &&
    (match fd.body with | .stmts ss => sim176 (fun q => fd.scope.names.lookup q) ss | _ => false)
theorem ok176 (w : World) : ((fdAt (KK w) 176).any fun fd => fd176 (KK w) fd) = true := by kernel_rfl

section
variable {prog : Program} {w : World} {fs : List Env} {A : Around} {F F0 F1 Fb : FF} {H : Hp} {s : Shared} {n : Nat} {env genv : Env} {m : Loc}

/-- a store into a local name, the generators as they were -/
theorem storeL (I : FrIn env F1 m) (S : St prog w F1 H s) {x : String} {u : Value} (hk : env.kindOf (Str.ofString x) = some .local) {Q : Unit → Shared → Prop} {E : Value → Shared → Prop}
    (h : ∀ gh s', (∃ es ep, gh.data = .dict es ep) → (∀ F9, FrIn env F9 m → F9.k env.locals = F1.k env.locals → FrIn env (F9.put env.locals gh) (upL m x (ab u))) → St prog w (F1.put env.locals gh) H s' → s'.gens = s.gens → Q () s') : wpAny (model prog w) A (storeName env (Str.ofString x) u) Q E s := by
  obtain ⟨o, es, ep, h1, h2, h3, h4⟩ := I.ns
  obtain ⟨oo, gg1, gg2⟩ := S.keepD h1
  have hns : s.heap.Ns env.locals (nsFind es) := ⟨oo, es, ep, gg1, gg2.trans h2, h3, fun _ => rfl⟩
  refine wpAny_storeName_local hk hns (fun h' hn' hs' => ?_) (by rw [I.kind]; rfl)
  obtain ⟨o', es', ep', g1, g2, g3, g4⟩ := hn'
  have nd : ∀ items n, o.data ≠ .seq items n := fun _ _ q => by rw [h2] at q; cases q
  refine h { cls := .type "frame", dict := some F1.os.2, data := .dict es' ep' } _ ⟨_, _, rfl⟩ (fun F9 I9 e9 => ?_) (S.frameL h1 nd hs'.extBut g1 (.inr ⟨rfl, rfl, g2⟩) _) rfl
  refine ⟨I9.kind, I9.glob, I9.blt, ⟨_, es', ep', FF.put_self .., rfl, g3, fun y v hy hm => ?_⟩, fun y v hy hm => ?_, fun y hy => ?_, I9.apart, I9.off, fun o2 e2 => by rw [FF.put_self] at e2; cases e2; exact ⟨rfl, (I.fcls o h1).2.symm.trans (I9.fcls o (e9.trans h1)).2⟩⟩
  · refine (show (∃ u', (if Str.ofString y = Str.ofString x then some u else nsFind es (Str.ofString y)) = some u' ∧ ab u' = v) → ∃ u', nsFind es' (Str.ofString y) = some u' ∧ ab u' = v from fun z => by rw [g4]; exact z) ?_
    unfold upL at hm
    by_cases e : y = x
    · subst e
      rw [if_pos rfl] at hm; cases hm
      exact ⟨u, if_pos rfl, rfl⟩
    · rw [if_neg e] at hm
      rw [if_neg (str_ne e)]
      exact h4 y v hy hm
  · have e : y ≠ x := by
      rintro rfl
      rw [hk] at hy; rcases hy with hy | hy <;> cases hy
    unfold upL at hm
    rw [if_neg e] at hm
    obtain ⟨c, oc, v', a1, a2, a3, a4⟩ := I9.cell y v hy hm
    exact ⟨c, oc, v', a1, by rw [FF.put_ne (I9.off _ _ (mem_of_lookup a1))]; exact a2, a3, a4⟩
  · obtain ⟨c, oc, v', a1, a2, a3⟩ := I9.holds y hy
    exact ⟨c, oc, v', a1, by rw [FF.put_ne (I9.off _ _ (mem_of_lookup a1))]; exact a2, a3⟩

/-- what is known beside a generator's frame -/
noncomputable def FF.beside (F : FF) (env : Env) : FF := by
  classical exact { F with k := fun a => if a = env.locals ∨ (∃ x, env.kindOf x = some .cell ∧ env.cells.lookup x = some a) then none else F.k a }
theorem FF.beside_in {F : FF} {env : Env} {a : Addr} (h : a = env.locals ∨ (∃ x, env.kindOf x = some .cell ∧ env.cells.lookup x = some a)) : (F.beside env).k a = none := by
  unfold FF.beside; exact if_pos h
theorem FF.beside_out {F : FF} {env : Env} {a : Addr} (h : ¬ (a = env.locals ∨ (∃ x, env.kindOf x = some .cell ∧ env.cells.lookup x = some a))) : (F.beside env).k a = F.k a := by
  unfold FF.beside; exact if_neg h

/-- the second statement: try: return next(iter) -/
theorem try176 {Q : AV → Hp → Prop} {mg : Loc} {body : SL} {ss : List Stmt} {ga : Addr} {g : Nat} {nm qn : Str} {t u : Tok} {p1 p2 p3 p4 p5 p6 p7 p8 p9 : Pos} {kk} (R : Room (env :: fs) A (n + 1)) (hf : env.frame = some env.locals) (T : Stat (env :: fs) w Fb)
    (I2 : FrIn env Fb m) (S : St prog w F1 H s) (hga : F1.k ga = some (genO g nm qn t u)) (hg : s.gens[g]? = some (.fresh (.func ss genv))) (I : FrIn genv F1 mg) (B : Base genv Fb F1) (BC : BaseC genv Fb) (hfr : genv.frame = some genv.locals)
    (hco : genv.scope.isCoroutine = false) (hsim : simGL body (fun q => genv.kindOf q) ss = true) (hsem : semSL (CX prog w n) body (fun fl _ H' => gQ (fun H' => Q .none H') Q fl H') mg H)
    (hm : m "iter" = some (.ref ga)) (hk1 : env.kindOf (Str.ofString "iter") = some .local) (hk2 : env.kindOf (Str.ofString "next") = some .globalImplicit) (hk3 : env.kindOf (Str.ofString "StopIteration") = some .globalImplicit) {E : Value → Shared → Prop} :
    wpAny (model prog w) A (exec (.Try [.Return (some (.Call (.Name (Str.ofString "next") p1) [.Name (Str.ofString "iter") p2] [] p3)) p4] [.ExceptHandler (some (.Name (Str.ofString "StopIteration") p5)) none [.Return (some (.Constant .none kk p6)) p7] p8] [] [] p9) env)
      (fun f s' => ∃ v F' H', f = .ret v ∧ St prog w F' H' s' ∧ Base genv Fb F' ∧ Q (ab v) H') E s := by
  have I1 : FrIn env F1 m := I2.mono B.ext B.os
  have T1 : Stat (env :: fs) w F1 := T.mono B.ext B.os
  refine wpAny_Try_except (wpAny_execs_cons (wpAny_Return_some ?_))
  show wpAny _ _ (eval (.Name (Str.ofString "next") p1) env >>= fun g => callWith p3 g [] (backTo p3 (starEach [.Name (Str.ofString "iter") p2] env)) (backToKw p3 (keywordEach [] env))) _ _ s
  refine wpAny_bind (raw_global I1 T1 S hk2 (by decide) (k_stop w).2 ?_)
  refine Calls.callWith_builtin (plain_any (es := [.Name (Str.ofString "iter") p2]) (by rfl) p3) ?_
  rw [star_cons (e := .Name (Str.ofString "iter") p2) (by rfl)]
  refine Calls.evalArgs_plain (Calls.spliced_cons (raw_local I1 S hk1 (by decide) hm fun v hv => ?_))
  obtain rfl := ab_ref hv
  refine wpAny_pure ?_
  refine wpAny_mono (raw_next R T S hga hg I B BC hfr hco hsim hsem) (fun v s' z => ?_) fun e s' z => ?_
  · obtain ⟨F', H', S', B', q⟩ := z
    exact ⟨v, F', H', rfl, S', B', q⟩
  · obtain ⟨ea, F', H', rfl, S', B', q, hN⟩ := z
    refine caught (A := A) (F := F') (H := H') R.frames hf (I2.mono B'.ext B'.os) (T.mono B'.ext B'.os) S' hN rfl hk3 fun s2 S2 => ?_
    exact ⟨.none, F', H', rfl, S2, B', q⟩
end
end Csp

namespace Csp
open PySem PySem.W PySem.Calls PyProof.Rows PySem.SeqAt Builtin Builtin.ObjectAttr

section
variable {prog : Program} {w : World} {H : Hp} {n : Nat}

/-- BacktrackingSolver.getSolution, from what its generator's body means -/
theorem cx_176 {slf sdx : Addr} {fb : Bool} {dm cs vc : AV} {Q : AV → Hp → Prop} (g1 : H slf = some (.inst 186 sdx)) (g2 : H sdx = some (.ns [("_forwardcheck", .bool fb)])) (n3 : slf ≠ 347)
    (hsem : semSL (CX prog w n) b169g (fun fl _ H' => gQ (fun H' => Q .none H') Q fl H') (locOf [("self", .ref slf), ("domains", dm), ("constraints", cs), ("vconstraints", vc)]) H) :
    CX prog w (n + 2) (.ref 176) [.ref slf, dm, cs, vc] Q H := by
  intro fs A F fv vv s R T e1 e2 S
  obtain rfl := ab_ref e1
  have X := T.inK S
  obtain ⟨x1, x2, x3, x4, rfl, y1, y2, y3, y4⟩ := args4 e2
  have hbs := bind_176 w x1 x2 x3 x4
  obtain ⟨fd, hfd, hok⟩ := W.any_some (ok176 w)
  obtain ⟨c, d, sl, ho⟩ := fdAt_of hfd
  unfold fd176 at hok
  simp only [Bool.and_eq_true, beq_iff_eq, Bool.not_eq_true'] at hok
  obtain ⟨⟨⟨⟨⟨⟨⟨⟨k1, k2⟩, k3⟩, k4⟩, k5⟩, k6⟩, k7⟩, k8⟩, k9⟩ := hok
  split at k9
  · rename_i ss hss
    have k8 := List.all_eq_true.mp k8
    refine codeAny_call_function R.le (X _ _ ho) rfl k4 k5 hss (codeRec_of X k7) ?_
    have hb0 := hbs ⟨(model prog w).prog, (model prog w).w.params⟩
    rw [hfd, Option.bind_some] at hb0
    generalize hB : [("self", x1), ("domains", x2), ("constraints", x3), ("vconstraints", x4)] = bs at hb0
    generalize hm : locOf (bs.map fun p => (p.1, ab p.2)) = m
    have hm' : m = locOf [("self", .ref slf), ("domains", dm), ("constraints", cs), ("vconstraints", vc)] := by rw [← hm, ← hB]; simp only [List.map, y1, y2, y3, y4]
    split at hb0
    · rename_i hall
      have hall := List.all_eq_true.mp hall
      refine (Looks.of_peek (M := model prog w) X hb0).here ?_
      rw [show fd.closure = [] from by simpa using k3]
      have hkinds : ∀ p ∈ bs, fd.scope.names.lookup (Str.ofString p.1) = some .local ∨ fd.scope.names.lookup (Str.ofString p.1) = some .cell := fun p hp => by
        have := hall p hp
        simpa [Bool.or_eq_true, beq_iff_eq] using this
      have hcells : ∀ (k : Nat) x, fd.scope.names.lookup x = some .cell → ∃ c, (cellsFrom k fd.scope.names []).lookup x = some c := fun k x hx => by
        obtain ⟨c, hc⟩ := cellsFrom_has fd.scope.names k [] (.inl (mem_lookup hx))
        exact lookup_some_of_mem hc
      refine wpAny_newFunctionEnv_cells k6 (fun x hx => ?_) fun env he s1 Xc => ?_
      · obtain ⟨p, hp, rfl⟩ := List.mem_map.mp hx
        rcases hkinds p hp with q | q
        · exact .inl q
        · obtain ⟨c, hc⟩ := hcells (s.heap.objs.size + 1) _ q
          exact .inr ⟨q, by rw [hc]; rfl⟩
      · have hkf : ∀ q, env.kindOf q = fd.scope.names.lookup q := fun q => by rw [he]; rfl
        have hr := bind_rel env.kindOf bs (fun _ => none) (fun _ => none) (fun _ => none) (fun p hp => by rw [hkf]; exact hkinds p hp) (fun _ _ _ e => by cases e) (fun _ _ _ e => by cases e)
        obtain ⟨F', I, B, BC, S1⟩ := call_frame (m := m) S (env := env) (by rw [he]; exact k6) (by rw [he]; exact k1) (by rw [he]; exact k2)
          (fun x e => by rw [hkf] at e; have := k8 _ (mem_lookup e); simp at this) (fun x e => by rw [hkf] at e; rw [he]; exact hcells _ x e) Xc (by rw [← hm]; exact hr.1) (by rw [← hm]; exact hr.2)
        refine ⟨(no_limit T S).keeps Xc.toInCall.keep, codeAny_func ?_⟩
        have hf : env.frame = some env.locals := by rw [he]; rfl
        have R' : Room (env :: fs) (A.deeper env) (n + 1) := ⟨by show A.depth + 1 + 10 * (n + 1) < 900; have := R.depth; omega, by show A.units + 3 + 100 * (n + 1) < 9000; have := R.units; omega, R.handled, by show A.frames.map (env :: ·) = _; rw [R.frames]; rfl⟩
        have T' : StatB (env :: fs) w env F := statB T hf
        have T1 := T' _ _ I B
        -- the body's two statements
        unfold sim176 at k9
        split at k9
        · rename_i x1 xp o a ap es cp sp nx p1 x2 p2 p3 p4 st p5 kk p6 p7 p8 p9
          simp only [Bool.and_eq_true, beq_iff_eq, decide_eq_true_eq] at k9
          obtain ⟨⟨⟨⟨⟨⟨⟨⟨⟨⟨⟨⟨rfl, rfl⟩, c3⟩, rfl⟩, c5⟩, c6⟩, c7⟩, c8⟩, c9⟩, rfl⟩, c11⟩, rfl⟩, c13⟩ := k9
          have m1 : m "self" = some (.ref slf) := by rw [hm']; rfl
          have m2 : m "domains" = some dm := by rw [hm']; rfl
          have m3 : m "constraints" = some cs := by rw [hm']; rfl
          have m4 : m "vconstraints" = some vc := by rw [hm']; rfl
          have mm : methOf H (.ref slf) "getSolutionIter" = some (.py 169) := by
            rw [e_meth_inst g1 g2 n3]; rfl
          obtain ⟨pl, hL⟩ := soundL (prog := prog) (w := w) R' args169 (fun q => fd.scope.names.lookup q) es m env F' c9 hkf I T1
          refine wpAny_execs_cons (wpAny_Assign_Name ?_ (sw_false rfl))
          refine tg_meth T1 c5 pl c6 (by simp [c7]) ?_ s1 S1
          refine (soundX (prog := prog) (w := w) R' (.loc "self") (fun q => fd.scope.names.lookup q) o m env F' c8 hkf I T1).1 _ _ ?_
          simp only [semX, VT.of, m1]
          refine ⟨_, mm, fun ovv p e3 e4 => ?_⟩
          obtain rfl : p = (.ref 169, [ovv]) := e4
          have hTL := hL (fun vs H2 => vs = [dm, cs, vc] ∧ H2 = H) H (by simp only [args169, semL, semX, VT.of, m2, m3, m4, and_self])
          refine fun pos => TX.mono (hTL pos) fun vs H2 z => ⟨kept_me (me := .py 169) T1 (by rw [e3]; exact mm) (show MeOk (.py 169) ovv (.ref 169, [ovv]) from rfl) _, ?_⟩
          obtain ⟨hvs, rfl⟩ := z
          intro ww e5 s2 S2
          obtain rfl := ab_ref e3
          obtain ⟨z2, z3, z4, rfl, j2, j3, j4⟩ := args3 (e5.trans hvs)
          refine wpAny_call ?_
          refine raw_gen T1 R' S2 (ok169 w) (bind_169 w (.ref slf) z2 z3 z4) rfl fun genv ga F1 gs s3 nm qn tt uu I3 B3 BC3 hfr hco hsim S3 hga0 hga1 hne hgens => ?_
          have hmg : locOf ([("self", Value.ref slf), ("domains", z2), ("constraints", z3), ("vconstraints", z4)].map fun p => (p.1, ab p.2)) = locOf [("self", .ref slf), ("domains", dm), ("constraints", cs), ("vconstraints", vc)] := by
            simp only [List.map, j2, j3, j4]; rfl
          rw [hmg] at I3
          have I1 : FrIn env F1 m := I.mono B3.ext B3.os
          obtain ⟨oL, eL, epL, hL1, hL2, _⟩ := I.ns
          have hLF1 : F1.k env.locals = some oL := B3.ext _ _ hL1
          refine storeL I1 S3 (hkf _ |>.trans c3) fun gh s4 hgh hput S4 hg4 => ?_
          have S5 := S4
          have BL : ∀ a, (a = genv.locals ∨ (∃ x, genv.kindOf x = some .cell ∧ genv.cells.lookup x = some a)) → F'.k a = none := fun a ha => by
            rcases ha with rfl | ⟨x, hx1, hx2⟩
            · exact B3.off
            · exact BC3 x a hx1 hx2
          have nL : ¬ (env.locals = genv.locals ∨ (∃ x, genv.kindOf x = some .cell ∧ genv.cells.lookup x = some env.locals)) := fun h => by have := BL _ h; rw [hL1] at this; cases this
          have nL2 : env.locals ≠ genv.locals := fun h => nL (.inl h)
          have nga : ga ≠ env.locals := by rintro rfl; rw [hga0] at hL1; cases hL1
          -- what is known beside the generator's frame
          have extF : ∀ a o, (F'.put env.locals gh).k a = some o → ((F1.put env.locals gh).beside genv).k a = some o := fun a o e => by
            by_cases h : a = env.locals
            · subst h
              rw [FF.beside_out nL]
              rw [FF.put_self] at e ⊢; exact e
            · rw [FF.put_ne h] at e
              rw [FF.beside_out (fun h2 => by rw [BL a h2] at e; cases e), FF.put_ne h]
              exact B3.ext a o e
          have osF : ((F1.put env.locals gh).beside genv).os = (F'.put env.locals gh).os := by unfold FF.beside; exact B3.os
          have BB : Base genv ((F1.put env.locals gh).beside genv) (F1.put env.locals gh) := ⟨fun a o e => by
              by_cases h : (a = genv.locals ∨ (∃ x, genv.kindOf x = some .cell ∧ genv.cells.lookup x = some a))
              · rw [FF.beside_in h] at e; cases e
              · rw [FF.beside_out h] at e; exact e, by unfold FF.beside; rfl, by unfold FF.beside; rfl, FF.beside_in (.inl rfl)⟩
          have BBC : BaseC genv ((F1.put env.locals gh).beside genv) := fun x c h1 h2 => FF.beside_in (.inr ⟨x, h1, h2⟩)
          have I2' : FrIn env (F'.put env.locals gh) (upL m "iter" (.ref ga)) := hput F' I (by rw [hL1, hLF1])
          have B2' : Base env F (F'.put env.locals gh) := ⟨fun a o e => by rw [FF.put_ne (by rintro rfl; rw [B.off] at e; cases e)]; exact B.ext a o e, B.os, B.sa, B.off⟩
          have IG : FrIn genv (F1.put env.locals gh) (locOf [("self", .ref slf), ("domains", dm), ("constraints", cs), ("vconstraints", vc)]) := by
            have := FrIn.cutC I3 (C := env.locals) nL2 hLF1 hL2
            refine this.mono (fun a o e => ?_) rfl
            have : a ≠ env.locals := by rintro rfl; simp [FF.cut] at e
            rw [FF.cut_ne this] at e
            rw [FF.put_ne this]; exact e
          refine wpAny_execs_cons (wpAny_mono (try176 (A := A.deeper env) (Fb := (F1.put env.locals gh).beside genv) (g := s2.gens.size) R' hf ((T' _ _ I2' B2').mono extF osF) (I2'.mono extF osF) S4 (by rw [FF.put_ne nga]; exact hga1) (by rw [hg4, hgens]; exact Array.getElem?_push_size) IG BB BBC hfr hco hsim hsem (by simp [upL]) (hkf _ |>.trans c3) (hkf _ |>.trans c11) (hkf _ |>.trans c13)) (fun f s6 z => ?_) fun _ _ z => z)
          obtain ⟨v, F6, H6, rfl, S6, B6, q⟩ := z
          refine ⟨v, H6, rfl, S6.back S (fun a o e => B6.ext a o (extF a o (B2'.ext a o e))) ?_ ?_, q⟩
          · rw [B6.os]; unfold FF.beside; show F1.os = F.os; rw [B3.os, B.os]
          · rw [B6.sa]; unfold FF.beside; show F1.sa = F.sa; rw [B3.sa, B.sa]
        · cases k9
    · cases hb0
  · cases k9
end
end Csp

namespace Csp
open PySem PySem.W PySem.Calls PyProof.Rows PySem.SeqAt Builtin Builtin.ObjectAttr

/-! the search with a queue, in plain words -/
/-- a level of the search: its variable, its entry in the queue, its list of values, what is left of it, the domains it pushes, the domains as they were at the choice, the value it has now -/
structure Lv where
  v : Nat
  z : Addr
  vals : Addr
  xs : List Int
  pd : AV
  τ : Sg
  val : Int
/-- what the levels assign, the newest level first -/
def asgOf : List Lv → As
  | [] => []
  | l :: r => asgOf r ++ [((l.v : Int), .int l.val)]
theorem asgOf_len : ∀ lv : List Lv, (asgOf lv).length = lv.length
  | [] => rfl
  | l :: r => by simp [asgOf, asgOf_len r]
/-- solutions that are still to be met -/
def Rem : List Lv → (Nat → Int) → Prop
  | [], _ => False
  | l :: r, f => (Ext (asgOf r) f ∧ f l.v ∈ l.xs) ∨ Rem r f
/-- a pop of the level's domains brings them back -/
def PopRel (N : Net) (fb : Bool) (l : Lv) (r : List Lv) (σ : Sg) : Prop := ∀ k, k < N.n → (k ∈ pdOf N (asgOf r) l.v fb → Abv (l.τ k) (σ k)) ∧ (k ∉ pdOf N (asgOf r) l.v fb → Eqv (l.τ k) (σ k))
/-- a choice -/
structure Cur (N : Net) (l : Lv) (r : List Lv) : Prop where
  lt : l.v < N.n
  new : look (asgOf r) (l.v : Int) = none
  good : Good N (asgOf r) l.τ
  sub : ∀ x ∈ l.xs, x ∈ (l.τ l.v).vis
  sts : ∀ k, k < N.n → (l.τ k).sts.length ≤ r.length
/-- the levels below -/
def Stk (N : Net) (fb : Bool) : List Lv → Sg → Prop
  | [], _ => True
  | l :: r, σ => Cur N l r ∧ l.xs.length ≤ 1 ∧ PopRel N fb l r σ ∧ Stk N fb r l.τ
theorem PopRel.eqv {N : Net} {fb : Bool} {l : Lv} {r : List Lv} {σ σ' : Sg} (h : PopRel N fb l r σ) (e : ∀ k, k < N.n → Eqv (σ k) (σ' k)) : PopRel N fb l r σ' := fun k hk =>
  ⟨fun m => ((h k hk).1 m).eqv (e k hk), fun m => ((h k hk).2 m).trans (e k hk)⟩
theorem Stk.eqv {N : Net} {fb : Bool} {lv : List Lv} {σ σ' : Sg} (h : Stk N fb lv σ) (e : ∀ k, k < N.n → Eqv (σ k) (σ' k)) : Stk N fb lv σ' := by
  cases lv with
  | nil => trivial
  | cons l r => exact ⟨h.1, h.2.1, h.2.2.1.eqv e, h.2.2.2⟩
theorem PopRel.pop {N : Net} {fb : Bool} {l : Lv} {r : List Lv} {σ : Sg} (h : PopRel N fb l r σ) (G : Good N (asgOf r) l.τ) : (∀ k ∈ pdOf N (asgOf r) l.v fb, okS (σ k) ∧ ∃ s0, Abv s0 (σ k)) ∧ ∀ k, k < N.n → Eqv (l.τ k) (mapS popS (pdOf N (asgOf r) l.v fb) σ k) := by
  refine ⟨fun k hk => ⟨((h k (pd_mem hk).1).1 hk).okS (G.ok k (pd_mem hk).1), _, (h k (pd_mem hk).1).1 hk⟩, fun k hk => ?_⟩
  by_cases hm : k ∈ pdOf N (asgOf r) l.v fb
  · rw [mapS_in _ _ _ _ pd_nodup hm]
    exact ((h k hk).1 hm).pop.1
  · rw [mapS_out _ _ _ _ hm]
    exact (h k hk).2 hm

/-- the steps that a search may still take -/
def T3 : Nat → Nat
  | 0 => 1
  | d + 1 => 1 + 2 * T3 d
theorem T3_pos : ∀ d, 1 ≤ T3 d
  | 0 => Nat.le_refl _
  | d + 1 => by unfold T3; omega
def cs (n : Nat) : List Lv → Nat
  | [] => 0
  | l :: r => l.xs.length * T3 (n - (r.length + 1)) + cs n r
def mu (n : Nat) (lv : List Lv) : Nat := T3 (n - lv.length) + cs n lv
def nu : List Lv → Nat
  | [] => 0
  | l :: r => l.xs.length + nu r

/-- one more variable -/
theorem mu_down {n : Nat} {l l' : Lv} {r : List Lv} (h1 : r.length < n) (h2 : l.xs.length ≤ 2) (h3 : l'.xs.length + 1 = l.xs.length) : mu n (l' :: r) < mu n r := by
  unfold mu
  simp only [cs, List.length_cons]
  have e : n - r.length = (n - (r.length + 1)) + 1 := by omega
  rw [e, T3]
  have : l'.xs.length ≤ 1 := by omega
  have h4 : l'.xs.length * T3 (n - (r.length + 1)) ≤ 1 * T3 (n - (r.length + 1)) := Nat.mul_le_mul_right _ this
  omega
/-- back to a level -/
theorem mu_back {n : Nat} {l l' : Lv} {r : List Lv} (h3 : l'.xs.length + 1 = l.xs.length) : mu n (l' :: r) = cs n (l :: r) := by
  unfold mu
  simp only [cs, List.length_cons, ← h3, Nat.add_mul, Nat.one_mul]
  omega
theorem cs_tail {n : Nat} {l : Lv} {r : List Lv} : cs n r ≤ cs n (l :: r) := by
  simp only [cs]; omega
theorem cs_lt_mu {n : Nat} (lv : List Lv) : cs n lv < mu n lv := by
  unfold mu
  have := T3_pos (n - lv.length)
  omega

theorem lv_len {N : Net} {fb : Bool} : ∀ {lv : List Lv} {σ : Sg}, Stk N fb lv σ → ∃ ks : List Nat, ks.length = lv.length ∧ ks.Nodup ∧ (∀ k ∈ ks, k < N.n) ∧ ∀ k : Nat, look (asgOf lv) (k : Int) ≠ none ↔ k ∈ ks
  | [], _, _ => ⟨[], rfl, List.nodup_nil, by simp, fun k => by simp [asgOf, look]⟩
  | l :: r, σ, h => by
    obtain ⟨ks, h1, h2, h3, h4⟩ := lv_len h.2.2.2
    have hn := h.1.new
    refine ⟨l.v :: ks, by simp [h1], List.nodup_cons.mpr ⟨fun m => (h4 l.v).mpr m hn, h2⟩, ?_, fun k => ?_⟩
    · intro k hk
      rcases List.mem_cons.mp hk with rfl | hk
      · exact h.1.lt
      · exact h3 k hk
    · show look (asgOf r ++ [((l.v : Int), .int l.val)]) (k : Int) ≠ none ↔ _
      rw [look_snoc _ _ _ hn]
      by_cases e : (k : Int) = l.v
      · have : k = l.v := by omega
        simp [this]
      · rw [if_neg e]
        have : k ≠ l.v := by omega
        simp [h4 k, this]
theorem nodup_lt_len : ∀ (n : Nat) {ks : List Nat}, ks.Nodup → (∀ k ∈ ks, k < n) → ks.length ≤ n
  | 0, ks, h1, h2 => by
    cases ks with
    | nil => simp
    | cons a r => exact absurd (h2 a (by simp)) (Nat.not_lt_zero _)
  | n + 1, ks, h1, h2 => by
    by_cases h : n ∈ ks
    · have ih := nodup_lt_len n (ks := ks.erase n) (h1.erase n) fun k hk => by
        have := h1.mem_erase_iff.mp hk
        have := h2 k this.2
        omega
      rw [List.length_erase_of_mem h] at ih
      omega
    · have ih := nodup_lt_len n h1 fun k hk => by
        have := h2 k hk
        have : k ≠ n := fun e => h (e ▸ hk)
        omega
      omega
/-- the levels are no more than the variables -/
theorem stk_len {N : Net} {fb : Bool} {lv : List Lv} {σ : Sg} (h : Stk N fb lv σ) : lv.length ≤ N.n := by
  obtain ⟨ks, h1, h2, h3, h4⟩ := lv_len h
  rw [← h1]
  exact nodup_lt_len _ h2 h3
theorem stk_len' {N : Net} {fb : Bool} {lv : List Lv} {σ : Sg} (h : Stk N fb lv σ) {v : Nat} (hv : v < N.n) (hn : look (asgOf lv) (v : Int) = none) : lv.length < N.n := by
  obtain ⟨ks, h1, h2, h3, h4⟩ := lv_len h
  rw [← h1]
  have := nodup_lt_len N.n (ks := v :: ks) (List.nodup_cons.mpr ⟨fun m => (h4 v).mpr m hn, h2⟩) (fun k hk => by
    rcases List.mem_cons.mp hk with rfl | hk
    · exact hv
    · exact h3 k hk)
  simp only [List.length_cons] at this
  omega

/-- a choice that the constraints let pass -/
theorem cur_step {N : Net} (hN : N.ok) {fb : Bool} {l : Lv} {r : List Lv} {σ : Sg} {xs : List Int} {x : Int} {z : Addr} (C : Cur N l r) (hx : l.xs = xs ++ [x]) (e : ∀ k, k < N.n → Eqv (l.τ k) (σ k))
    {p : Bool × Sg} (hp : p = conAll (N.vcs l.v) (asgOf r ++ [((l.v : Int), .int x)]) (!(pdOf N (asgOf r) l.v fb).isEmpty) (mapS pushS (pdOf N (asgOf r) l.v fb) σ)) :
    (p.1 = true → Good N (asgOf r ++ [((l.v : Int), .int x)]) p.2) ∧ (p.1 = false → ∀ f, N.Sol f → Ext (asgOf r) f → f l.v ≠ x) ∧ PopRel N fb l r p.2 ∧ (∀ k, k < N.n → (p.2 k).sts.length ≤ r.length + 1) := by
  have M := more_snoc C.new x
  have G := C.good.eqv e
  have hxv : x ∈ (σ l.v).vis := (e l.v C.lt).1.symm.subset (C.sub x (by rw [hx]; simp))
  have st := good_step hN (fb := !(pdOf N (asgOf r) l.v fb).isEmpty) G C.lt C.new hxv M (fun k => (push_vis (N := N) (asg := asgOf r) (v := l.v) (fb := fb) σ k).1) (fun k => (push_vis (N := N) (asg := asgOf r) (v := l.v) (fb := fb) σ k).2.1)
  rw [← hp] at st
  have hd := fun k => all_hid (asgOf r ++ [((l.v : Int), .int x)]) (!(pdOf N (asgOf r) l.v fb).isEmpty) (N.vcs l.v) (mapS pushS (pdOf N (asgOf r) l.v fb) σ) k
  rw [← hp] at hd
  refine ⟨st.1, fun hb f hf E hfx => st.2 hb f hf ((M.ext C.new).mpr ⟨E, hfx⟩), fun k hk => ⟨fun hm => ?_, fun hm => ?_⟩, fun k hk => ?_⟩
  · have h1 := (hd k).1
    rw [mapS_in _ _ _ _ pd_nodup hm] at h1
    exact (e k hk).abv ((abv_push (σ k)).hid h1)
  · by_cases hs : look (asgOf r) (k : Int) = none ∧ k ≠ l.v
    · have h1 := (hd k).2.2.1 (pd_flag hk hs.1 hs.2 hm)
      rw [mapS_out _ _ _ _ hm] at h1
      rw [h1]; exact e k hk
    · have h1 := (hd k).2.1 (fun h => hs ⟨(M.no.mp h).2, (M.no.mp h).1⟩)
      rw [mapS_out _ _ _ _ hm] at h1
      rw [h1]; exact e k hk
  · obtain ⟨_, _, _, h2⟩ := (hd k).1
    rw [h2]
    have h3 := (push_vis (N := N) (asg := asgOf r) (v := l.v) (fb := fb) σ k).2.2
    have h4 := (e k hk).2.2
    have h5 := C.sts k hk
    rw [h4] at h3
    omega
end Csp

namespace Csp
open PySem PySem.W PySem.Calls PyProof.Rows PySem.SeqAt Builtin Builtin.ObjectAttr

/-- a level's list of values and the domains that it pushes -/
structure CurAt (H0 H : Hp) (S : List Addr) (N : Net) (vt : List Vr) (fb : Bool) (r : List Lv) (l : Lv) : Prop where
  vals : H l.vals = some (.list (l.xs.map .int))
  nv : l.vals ∉ S
  fv : H0 l.vals = none
  pd : PdAt H S l.pd vt (pdOf N (asgOf r) l.v fb)
/-- the entries of the queue -/
def LvsAt (H0 H : Hp) (S : List Addr) (N : Net) (vt : List Vr) (fb : Bool) : List Lv → Prop
  | [] => True
  | l :: r => H l.z = some (.tuple [.int (l.v : Int), .ref l.vals, l.pd]) ∧ l.z ∉ S ∧ CurAt H0 H S N vt fb r l ∧ LvsAt H0 H S N vt fb r
def zsOf : List Lv → List AV
  | [] => []
  | l :: r => zsOf r ++ [.ref l.z]
theorem CurAt.chg {H0 H H' : Hp} {S : List Addr} {N : Net} {vt : List Vr} {fb : Bool} {r : List Lv} {l : Lv} (C : CurAt H0 H S N vt fb r l) (c : Chg S H H') : CurAt H0 H' S N vt fb r l := ⟨c _ _ C.vals C.nv, C.nv, C.fv, C.pd.chg c⟩
theorem LvsAt.chg {H0 H H' : Hp} {S : List Addr} {N : Net} {vt : List Vr} {fb : Bool} : ∀ {lv : List Lv}, LvsAt H0 H S N vt fb lv → Chg S H H' → LvsAt H0 H' S N vt fb lv
  | [], _, _ => trivial
  | l :: r, h, c => ⟨c _ _ h.1 h.2.1, h.2.1, h.2.2.1.chg c, h.2.2.2.chg c⟩
theorem PdAt.pop {H : Hp} {S : List Addr} {fc : AV} {vt : List Vr} {ks : List Nat} {u : Addr} {i : Int} {ys : List AV} (P : PdAt H S fc vt ks) (hu : H u = some (.list (ys ++ [.int i]))) (o : AO) : PdAt (upd H u o) S fc vt ks := by
  rcases P with h | ⟨p, h1, h2, h3⟩
  · exact .inl h
  · refine .inr ⟨p, h1, h2, upd_old h3 ?_⟩
    rintro rfl
    rw [h3] at hu
    injection hu with hu
    injection hu with hu
    have : AV.int i ∈ ks.map fun k => AV.ref (vd vt k) := by rw [hu]; simp
    obtain ⟨k, _, e⟩ := List.mem_map.mp this
    cases e
theorem LvsAt.pop {H0 H : Hp} {S : List Addr} {N : Net} {vt : List Vr} {fb : Bool} {u : Addr} {i : Int} {ys : List AV} (hu : H u = some (.list (ys ++ [.int i]))) (o : AO) : ∀ {lv : List Lv}, LvsAt H0 H S N vt fb lv → u ∉ lv.map (·.vals) → LvsAt H0 (upd H u o) S N vt fb lv
  | [], _, _ => trivial
  | l :: r, h, hn => by
    simp only [List.map_cons, List.mem_cons, not_or] at hn
    refine ⟨upd_old h.1 ?_, h.2.1, ⟨upd_old h.2.2.1.vals (Ne.symm hn.1), h.2.2.1.nv, h.2.2.1.fv, h.2.2.1.pd.pop hu o⟩, LvsAt.pop hu o h.2.2.2 hn.2⟩
    rintro e
    have h1 := h.1
    rw [e, hu] at h1
    cases h1

/-- the names of the generator's frame -/
structure LocG (m : Loc) (slf dd vc a q : Addr) (fb : Bool) : Prop where
  l0 : m ".0" = none
  l3 : m "domains" = some (.ref dd)
  l4 : m "vconstraints" = some (.ref vc)
  l5 : m "assignments" = some (.ref a)
  l6 : m "queue" = some (.ref q)
  l7 : m "forwardcheck" = some (.bool fb)
def chV : List String := ["lst", "item", "variable", "values", "pushdomains", "domain", "constraint", "variables"]
theorem LocG.of {m m' : Loc} {slf dd vc a q : Addr} {fb : Bool} (L : LocG m slf dd vc a q fb) (h : ∀ y, y ∉ chV → m' y = m y) : LocG m' slf dd vc a q fb :=
  ⟨(h _ (by decide)).trans L.l0, (h _ (by decide)).trans L.l3, (h _ (by decide)).trans L.l4, (h _ (by decide)).trans L.l5, (h _ (by decide)).trans L.l6, (h _ (by decide)).trans L.l7⟩

/-- what stays as it is in the generator's search -/
structure GenS (H0 : Hp) (N : Net) (vt : List Vr) (dd vc : Addr) (lsts : Nat → Addr) (ents : Nat → List Ent) (a q : Addr) : Prop where
  ok : N.ok
  srch : Srch H0 (Sx vt a q) N vt dd vc lsts ents
  na : a ∉ dynOf vt
  nq : q ∉ dynOf vt
  ne : a ≠ q
theorem GenS.ks {H0 : Hp} {N : Net} {vt : List Vr} {dd vc : Addr} {lsts : Nat → Addr} {ents : Nat → List Ent} {a q : Addr} (Z : GenS H0 N vt dd vc lsts ents a q) : ∀ k, k < N.n → ∀ c ∈ N.vcs k, ∀ j ∈ c.ks, j < vt.length := fun k hk c hc j hj => by
  rw [Z.srch.len]; exact (Z.ok.vars k hk c hc j hj).1

/-- the state when a level is to be taken back -/
structure PQ (H0 : Hp) (N : Net) (vt : List Vr) (slf dd vc a q : Addr) (fb : Bool) (lv : List Lv) (σ : Sg) (m : Loc) (H : Hp) : Prop where
  loc : LocG m slf dd vc a q fb
  chg : Chg (Sx vt a q) H0 H
  dct : ∃ ep, H a = some (.dict (asgOf lv) ep)
  que : H q = some (.list (zsOf lv))
  lvs : LvsAt H0 H (Sx vt a q) N vt fb lv
  nd : (lv.map (·.vals)).Nodup
  dom : Doms H vt σ
  stk : Stk N fb lv σ
  rem : ∀ f, N.Sol f → Rem lv f
/-- the state when a level's next value is to be taken -/
structure IQ (H0 : Hp) (N : Net) (vt : List Vr) (slf dd vc a q : Addr) (fb : Bool) (l : Lv) (lv : List Lv) (σ : Sg) (m : Loc) (H : Hp) : Prop where
  loc : LocG m slf dd vc a q fb
  v : m "variable" = some (.int (l.v : Int))
  vals : m "values" = some (.ref l.vals)
  pd : m "pushdomains" = some l.pd
  chg : Chg (Sx vt a q) H0 H
  dct : ∃ ep, H a = some (.dict (asgOf lv) ep) ∧ l.xs ≠ [] ∨ ∃ y, H a = some (.dict (asgOf lv ++ [((l.v : Int), y)]) ep)
  que : H q = some (.list (zsOf lv))
  cur : CurAt H0 H (Sx vt a q) N vt fb lv l
  lvs : LvsAt H0 H (Sx vt a q) N vt fb lv
  nd : ((l :: lv).map (·.vals)).Nodup
  dom : Doms H vt σ
  eqv : ∀ k, k < N.n → Eqv (l.τ k) (σ k)
  c : Cur N l lv
  two : l.xs.length ≤ 2
  stk : Stk N fb lv l.τ
  rem : ∀ f, N.Sol f → Rem (l :: lv) f

section
variable {prog : Program} {w : World} {H0 H : Hp} {N : Net} {vt : List Vr} {dd vc : Addr} {lsts : Nat → Addr} {ents : Nat → List Ent} {slf a q : Addr} {fb : Bool}

def bodyPQ : SL := .cons (.assignT ["variable", "values", "pushdomains"] (.meth (.loc "queue") "pop" .nil)) (.cons (stPP "popState") (.cons (.ife (.loc "values") (.cons .brk .nil) .nil) (.cons (.delIdx (.loc "assignments") (.loc "variable")) .nil)))

theorem zs_last (l : Lv) (r : List Lv) : (zsOf (l :: r)).getLast? = some (.ref l.z) ∧ (zsOf (l :: r)).dropLast = zsOf r := by
  simp [zsOf]

/-- levels are taken back until one has a value left -/
theorem loopPQ {n : Nat} (hn : 3 ≤ n) (Z : GenS H0 N vt dd vc lsts ents a q) {Q : Fl → Loc → Hp → Prop}
    (qret : (∀ f, N.Sol f → False) → ∀ m H, Chg (Sx vt a q) H0 H → Q (.ret .none) m H) :
    ∀ (K : Nat) (lv : List Lv) (σ : Sg) (m : Loc) (H : Hp), lv.length < K → PQ H0 N vt slf dd vc a q fb lv σ m H →
      (∀ l r σ m H, (∃ pre, lv = pre ++ l :: r) → nu (l :: r) ≤ nu lv → cs N.n (l :: r) ≤ cs N.n lv → l.xs ≠ [] → IQ H0 N vt slf dd vc a q fb l r σ m H → Q .next m H) →
      whlN (fun m' => (semX (CX prog w n) m' (.loc "queue")).t) (semSL (CX prog w n) bodyPQ) (semSL (CX prog w n) (.cons (.ret (.lit .none)) .nil)) Q K m H := by
  intro K
  induction K with
  | zero => exact fun lv σ m H h => absurd h (Nat.not_lt_zero _)
  | succ K ih =>
    intro lv σ m H hK I qn
    have R := Z.srch.chg I.chg
    rw [whlN]
    simp only [semX, VT.of, I.loc.l6, e_truth_list I.que]
    cases lv with
    | nil =>
      simp only [zsOf, List.isEmpty_nil, Bool.not_true, Bool.false_eq_true, if_false, semSL, semS, semX, VT.of]
      exact qret (fun f hf => I.rem f hf) m H I.chg
    | cons l r =>
      have hne : (zsOf (l :: r)).isEmpty = false := by simp [zsOf]
      simp only [hne, Bool.not_false, if_true]
      obtain ⟨hz, nz, hc, hl⟩ := I.lvs
      obtain ⟨hC, h1, hP, hS⟩ := I.stk
      obtain ⟨z1, z2⟩ := zs_last l r
      rw [bodyPQ, semSL, semS]
      simp only [semX, semL, VT.of, I.loc.l6, e_meth_list I.que (by decide : "pop" ≠ "preProcess"), listMeth, e_pop I.que, z1, z2]
      have c1 : Chg (Sx vt a q) H (upd H q (.list (zsOf r))) := (Chg.refl _ _).upd sx_sol
      have D1 := I.dom.other (o := .list (zsOf r)) Z.nq (by simp [I.que])
      have q1 : (upd H q (.list (zsOf r))) q = some (.list (zsOf r)) := upd_at
      obtain ⟨ep, ha⟩ := I.dct
      have ha1 : (upd H q (.list (zsOf r))) a = some (.dict (asgOf (l :: r)) ep) := upd_old ha Z.ne
      generalize upd H q (.list (zsOf r)) = H1 at c1 D1 q1 ha1
      have hz1 := c1 _ _ hz nz
      simp only [bindT, hz1]
      refine ⟨rfl, ?_⟩
      simp only [List.zip, List.zipWith, List.foldl]
      have L1 : LocG (upL (upL (upL m "variable" (.int (l.v : Int))) "values" (.ref l.vals)) "pushdomains" l.pd) slf dd vc a q fb := I.loc.of fun y hy => by
        simp only [chV, List.mem_cons, List.not_mem_nil, or_false, not_or] at hy
        simp [upL, hy]
      have v1 : (upL (upL (upL m "variable" (.int (l.v : Int))) "values" (.ref l.vals)) "pushdomains" l.pd) "variable" = some (.int (l.v : Int)) := by simp [upL]
      have v2 : (upL (upL (upL m "variable" (.int (l.v : Int))) "values" (.ref l.vals)) "pushdomains" l.pd) "values" = some (.ref l.vals) := by simp [upL]
      have v3 : (upL (upL (upL m "variable" (.int (l.v : Int))) "values" (.ref l.vals)) "pushdomains" l.pd) "pushdomains" = some l.pd := by simp [upL]
      generalize upL (upL (upL m "variable" (.int (l.v : Int))) "values" (.ref l.vals)) "pushdomains" l.pd = m1 at L1 v1 v2 v3
      have hc1 := hc.chg c1
      obtain ⟨p1, p2⟩ := hP.pop hC.good
      rw [semSL]
      refine sem_pop R.ap (by omega) v3 (hc1.pd.sub fun _ => sx_dyn) (fun k hk => by rw [R.len]; exact (pd_mem hk).1) D1 pd_nodup p1 fun m2 H2 e2 c2 D2 => ?_
      have c2' : Chg (Sx vt a q) H1 H2 := c2.mono fun _ => sx_dyn
      have L2 : LocG m2 slf dd vc a q fb := L1.of fun y hy => e2 y (by rintro rfl; exact hy (by decide))
      have u1 := (e2 "variable" (by decide)).trans v1
      have u2 := (e2 "values" (by decide)).trans v2
      have u3 := (e2 "pushdomains" (by decide)).trans v3
      have hc2 := hc1.chg c2'
      have ha2 := c2 _ _ ha1 Z.na
      have q2 := c2 _ _ q1 Z.nq
      have hl2 := (hl.chg c1).chg c2'
      dsimp only
      rw [semSL, semS]
      simp only [semX, VT.of, u2, e_truth_list hc2.vals]
      by_cases hx : l.xs = []
      · have hb : (l.xs.map AV.int).isEmpty = true := by rw [hx]; rfl
        simp only [hb, Bool.not_true, Bool.false_eq_true, if_false, semSL, semS, semX, VT.of, L2.l5, u1, e_delItem ha2]
        have ha2' : asgOf (l :: r) = asgOf r ++ [((l.v : Int), .int l.val)] := rfl
        refine ⟨by rw [ha2', look_snoc _ _ _ hC.new]; simp, fun ep3 => ?_⟩
        rw [ha2', drop_snoc hC.new]
        have c3 : Chg (Sx vt a q) H2 (upd H2 a (.dict (asgOf r) ep3)) := (Chg.refl _ _).upd sx_a
        refine ih r (mapS popS (pdOf N (asgOf r) l.v fb) σ) m2 _ (by simp at hK; omega) ⟨L2, ((I.chg.trans c1).trans c2').trans c3, ⟨ep3, upd_at⟩, upd_old q2 Z.ne.symm, hl2.chg c3, (List.nodup_cons.mp I.nd).2, D2.other Z.na (by simp [ha2]), hS.eqv p2, fun f hf => ?_⟩ fun l' r' σ' m' H' ⟨pre, e⟩ h3 h4 h5 h6 => qn l' r' σ' m' H' ⟨l :: pre, by rw [e]; rfl⟩ (by simp only [nu] at h3 ⊢; omega) (Nat.le_trans h4 cs_tail) h5 h6
        rcases I.rem f hf with ⟨_, h⟩ | h
        · rw [hx] at h; simp at h
        · exact h
      · have hb : (l.xs.map AV.int).isEmpty = false := by cases h : l.xs with | nil => exact absurd h hx | cons _ _ => rfl
        simp only [hb, Bool.not_false, if_true, semSL, semS]
        exact qn l r _ m2 H2 ⟨[], rfl⟩ (Nat.le_refl _) (Nat.le_refl _) hx ⟨L2, u1, u2, u3, (I.chg.trans c1).trans c2', ⟨ep, .inr ⟨_, ha2⟩⟩, q2, hc2, hl2, I.nd, D2, p2, hC, by omega, hS, I.rem⟩
end
end Csp

namespace Csp
open PySem PySem.W PySem.Calls PyProof.Rows PySem.SeqAt Builtin Builtin.ObjectAttr

def inn2 : SL := .cons (.assignIdx (.loc "assignments") (.loc "variable") (.meth (.loc "values") "pop" .nil)) (.cons (stPP "pushState") (.cons (.for1 ["constraint", "variables"] (.idx (.loc "vconstraints") (.loc "variable")) bodyCons (.cons .brk .nil)) (.cons (stPP "popState") .nil)))
def bodyIn : SL := .cons (.ife (.not (.loc "values")) (.cons (.delIdx (.loc "assignments") (.loc "variable")) (.cons (.whl (.loc "queue") bodyPQ (.cons (.ret (.lit .none)) .nil)) .nil)) .nil) inn2

def Lv.left (l : Lv) (xs : List Int) : Lv := { l with xs := xs }
def Lv.now (l : Lv) (x : Int) : Lv := { l with val := x }

/-- the state when a level's value was let pass -/
structure NQ (H0 : Hp) (N : Net) (vt : List Vr) (slf dd vc a q : Addr) (fb : Bool) (l : Lv) (lv : List Lv) (σ : Sg) (m : Loc) (H : Hp) : Prop where
  loc : LocG m slf dd vc a q fb
  v : m "variable" = some (.int (l.v : Int))
  vals : m "values" = some (.ref l.vals)
  pd : m "pushdomains" = some l.pd
  chg : Chg (Sx vt a q) H0 H
  dct : ∃ ep, H a = some (.dict (asgOf (l :: lv)) ep)
  que : H q = some (.list (zsOf lv))
  cur : CurAt H0 H (Sx vt a q) N vt fb lv l
  lvs : LvsAt H0 H (Sx vt a q) N vt fb lv
  nd : ((l :: lv).map (·.vals)).Nodup
  dom : Doms H vt σ
  good : Good N (asgOf (l :: lv)) σ
  stk : Stk N fb (l :: lv) σ
  sts : ∀ k, k < N.n → (σ k).sts.length ≤ lv.length + 1
  rem : ∀ f, N.Sol f → Ext (asgOf (l :: lv)) f ∨ Rem (l :: lv) f

section
variable {prog : Program} {w : World} {H0 H : Hp} {N : Net} {vt : List Vr} {dd vc : Addr} {lsts : Nat → Addr} {ents : Nat → List Ent} {slf a q : Addr} {fb : Bool}

theorem Cur.left {N : Net} {l : Lv} {r : List Lv} {xs : List Int} (C : Cur N l r) (h : ∀ x ∈ xs, x ∈ l.xs) : Cur N (l.left xs) r := ⟨C.lt, C.new, C.good, fun x hx => C.sub x (h x hx), C.sts⟩
theorem Cur.now {N : Net} {l : Lv} {r : List Lv} {x : Int} (C : Cur N l r) : Cur N (l.now x) r := ⟨C.lt, C.new, C.good, C.sub, C.sts⟩

theorem turnIn {n : Nat} (hn : 3 ≤ n) (Z : GenS H0 N vt dd vc lsts ents a q) {l : Lv} {lv : List Lv} {σ : Sg} {m : Loc} {xs : List Int} {x : Int} {K : Fl → Loc → Hp → Prop} (I : IQ H0 N vt slf dd vc a q fb l lv σ m H) (hx : l.xs = xs ++ [x])
    (kb : ∀ σ' m' H', NQ H0 N vt slf dd vc a q fb ((l.left xs).now x) lv σ' m' H' → K .brk m' H')
    (kn : ∀ σ' m' H', IQ H0 N vt slf dd vc a q fb (l.left xs) lv σ' m' H' → K .next m' H') : semSL (CX prog w n) inn2 K m H := by
  have hv0 : H l.vals = some (.list (xs.map .int ++ [.int x])) := by rw [I.cur.vals, hx]; simp
  have av : a ≠ l.vals := fun e => I.cur.nv (e ▸ sx_a)
  have qv : q ≠ l.vals := fun e => I.cur.nv (e ▸ sx_sol)
  have hlen : lv.length < N.n := stk_len' I.stk I.c.lt I.c.new
  have hN6 := Z.ok.small
  rw [inn2, semSL, semS]
  simp only [semX, semL, VT.of, I.vals, I.loc.l5, I.v, e_meth_list hv0 (by decide : "pop" ≠ "preProcess"), listMeth, e_pop hv0, List.getLast?_append, List.getLast?_singleton, Option.some_or, List.dropLast_concat]
  -- the list of values is shorter by one
  have c1 : Chg (Sx vt a q) H0 (upd H l.vals (.list (xs.map .int))) := I.chg.updF I.cur.fv
  have D1 := I.dom.other (o := .list (xs.map .int)) (fun m => I.cur.nv (sx_dyn m)) (by simp [hv0])
  have q1 : (upd H l.vals (.list (xs.map .int))) q = some (.list (zsOf lv)) := upd_old I.que qv
  have v1 : (upd H l.vals (.list (xs.map .int))) l.vals = some (.list (xs.map .int)) := upd_at
  have hnd := List.nodup_cons.mp I.nd
  have lv1 := LvsAt.pop hv0 (.list (xs.map .int)) I.lvs hnd.1
  have pd1 := I.cur.pd.pop hv0 (.list (xs.map .int))
  have dct : ∃ D ep, (upd H l.vals (.list (xs.map .int))) a = some (.dict D ep) ∧ D.length < big ∧ store D (l.v : Int) (.int x) = asgOf lv ++ [((l.v : Int), .int x)] := by
    obtain ⟨ep, ⟨h, _⟩ | ⟨y, h⟩⟩ := I.dct
    · exact ⟨_, ep, upd_old h av, by rw [asgOf_len]; unfold big; omega, store_new I.c.new _⟩
    · exact ⟨_, ep, upd_old h av, by rw [List.length_append, asgOf_len]; simp; unfold big; omega, store_again I.c.new _ _⟩
  generalize upd H l.vals (.list (xs.map .int)) = H1 at c1 D1 q1 v1 lv1 pd1 dct
  obtain ⟨D, ep, ha1, hD, hst⟩ := dct
  rw [e_setItem ha1]
  refine ⟨hD, fun ep2 => ?_⟩
  rw [hst]
  have cu1 : CurAt H0 H1 (Sx vt a q) N vt fb lv (l.left xs) := ⟨v1, I.cur.nv, I.cur.fv, pd1⟩
  have c2 : Chg (Sx vt a q) H1 (upd H1 a (.dict (asgOf lv ++ [((l.v : Int), .int x)]) ep2)) := (Chg.refl _ _).upd sx_a
  have D2 := D1.other (o := .dict (asgOf lv ++ [((l.v : Int), .int x)]) ep2) Z.na (by simp [ha1])
  have q2 : (upd H1 a (.dict (asgOf lv ++ [((l.v : Int), .int x)]) ep2)) q = some (.list (zsOf lv)) := upd_old q1 Z.ne.symm
  have a2 : (upd H1 a (.dict (asgOf lv ++ [((l.v : Int), .int x)]) ep2)) a = some (.dict (asgOf lv ++ [((l.v : Int), .int x)]) ep2) := upd_at
  generalize upd H1 a (.dict (asgOf lv ++ [((l.v : Int), .int x)]) ep2) = H2 at c2 D2 q2 a2
  have cu2 := cu1.chg c2
  have lv2 := lv1.chg c2
  have c2' := c1.trans c2
  have R2 := Z.srch.chg c2'
  have pdl : ∀ k ∈ pdOf N (asgOf lv) l.v fb, k < vt.length := fun k hk => by rw [R2.len]; exact (pd_mem hk).1
  have G0 := I.c.good.eqv I.eqv
  rw [semSL]
  refine sem_push (ks := pdOf N (asgOf lv) l.v fb) R2.ap (by omega) I.pd (cu2.pd.sub fun _ => sx_dyn) pdl D2 pd_nodup (fun k hk => by
    have h1 := I.c.sts k (pd_mem hk).1
    rw [(I.eqv k (pd_mem hk).1).2.2]; omega) fun m3 H3 e3 c3 D3 => ?_
  have c3' : Chg (Sx vt a q) H2 H3 := c3.mono fun _ => sx_dyn
  have L3 : LocG m3 slf dd vc a q fb := I.loc.of fun y hy => e3 y (by rintro rfl; exact hy (by decide))
  have w1 := (e3 "variable" (by decide)).trans I.v
  have w2 := (e3 "values" (by decide)).trans I.vals
  have w3 := (e3 "pushdomains" (by decide)).trans I.pd
  have R3 := R2.chg c3'
  obtain ⟨ed, hd3⟩ := R3.dom
  obtain ⟨ev, hv3⟩ := R3.vcd
  have a3 := c3 _ _ a2 Z.na
  have q3 := c3 _ _ q2 Z.nq
  have cu3 := cu2.chg c3'
  have lv3 := lv2.chg c3'
  dsimp only
  rw [semSL, semS]
  simp only [semX, VT.of, L3.l4, w1, e_idx_dict hv3, look_range _ I.c.lt, e_items_list (R3.lst l.v I.c.lt).1]
  have nlst : lsts l.v ∉ dynOf vt := fun h => (R3.lst l.v I.c.lt).2 (sx_dyn h)
  have M := more_snoc I.c.new x
  have ints' : ∀ k u, look (asgOf lv ++ [((l.v : Int), AV.int x)]) k = some u → ∃ i, u = .int i := fun k u e => by
    rw [M k] at e
    by_cases h : k = (l.v : Int)
    · rw [if_pos h] at e; exact ⟨x, (Option.some.inj e).symm⟩
    · rw [if_neg h] at e; exact I.c.good.ints k u e
  refine loopCons (prog := prog) (w := w) (n := n) (H0 := H3) (src := .ref (lsts l.v)) (fc := l.pd) (fb := !(pdOf N (asgOf lv) l.v fb).isEmpty) (fun H' c => by simp only [sameSrc, (R3.lst l.v I.c.lt).1, c _ _ (R3.lst l.v I.c.lt).1 nlst, and_self]) a3 hd3 Z.na (fun h => R3.nd (sx_dyn h)) R3.ap ints'
    (fun R' H' c h => (cu3.pd.chg (c.mono fun _ => sx_dyn)).truth h) (by omega) m3 (ents l.v) m3 H3 _ L3.l3 L3.l5 w3 (fun _ _ _ => rfl) (fun e he => ⟨(R3.ent l.v I.c.lt e he).sub fun _ => sx_dyn, fun k hk => Z.ks l.v I.c.lt e.con (by rw [← Z.srch.con l.v I.c.lt]; exact List.mem_map.mpr ⟨e, he, rfl⟩) k hk⟩) (Chg.refl _ _) D3
    (fun i hi => ?_) (fun m4 H4 e4 c4 D4 => ?_)
  · have := G0.ok i (by rw [← R2.len]; exact hi)
    unfold okS at *
    rw [(push_vis (N := N) (asg := asgOf lv) (v := l.v) (fb := fb) σ i).1, (push_vis (N := N) (asg := asgOf lv) (v := l.v) (fb := fb) σ i).2.1]
    exact this
  rw [Z.srch.con l.v I.c.lt] at D4 ⊢
  generalize hp : (conAll (N.vcs l.v) (asgOf lv ++ [((l.v : Int), AV.int x)]) (!(pdOf N (asgOf lv) l.v fb).isEmpty) (mapS pushS (pdOf N (asgOf lv) l.v fb) σ)) = p at D4 ⊢
  obtain ⟨s1, s2, s3, s4⟩ := cur_step Z.ok (z := 0) (fb := fb) I.c hx I.eqv hp.symm
  have c4' : Chg (Sx vt a q) H3 H4 := c4.mono fun _ => sx_dyn
  have L4 : LocG m4 slf dd vc a q fb := L3.of fun y hy => e4 y (by rintro rfl; exact hy (by decide)) (by rintro rfl; exact hy (by decide))
  have x1 := (e4 "variable" (by decide) (by decide)).trans w1
  have x2 := (e4 "values" (by decide) (by decide)).trans w2
  have x3 := (e4 "pushdomains" (by decide) (by decide)).trans w3
  have a4 := c4 _ _ a3 Z.na
  have q4 := c4 _ _ q3 Z.nq
  have cu4 := cu3.chg c4'
  have lv4 := lv3.chg c4'
  have c04 := (c2'.trans c3').trans c4'
  have hsub : ∀ y ∈ xs, y ∈ l.xs := fun y hy => by rw [hx]; simp [hy]
  have hxl : xs.length ≤ 1 := by have := I.two; rw [hx] at this; simp at this; omega
  by_cases hb : p.1 = true
  · rw [if_pos hb]
    simp only [semSL, semS]
    refine kb p.2 m4 H4 ⟨L4, x1, x2, x3, c04, ⟨ep2, a4⟩, q4, ⟨cu4.vals, cu4.nv, cu4.fv, cu4.pd⟩, lv4, I.nd, D4, s1 hb, ⟨(I.c.left hsub).now, hxl, s3, I.stk⟩, s4, fun f hf => ?_⟩
    rcases I.rem f hf with ⟨E, h⟩ | h
    · rw [hx] at h
      rcases List.mem_append.mp h with h | h
      · exact .inr (.inl ⟨E, h⟩)
      · simp only [List.mem_singleton] at h
        exact .inl ((M.ext I.c.new).mpr ⟨E, h⟩)
    · exact .inr (.inr h)
  · rw [if_neg hb]
    rw [semSL]
    obtain ⟨p1, p2⟩ := PopRel.pop s3 I.c.good
    refine sem_pop (ks := pdOf N (asgOf lv) l.v fb) R3.ap (by omega) x3 (cu4.pd.sub fun _ => sx_dyn) pdl D4 pd_nodup p1 fun m5 H5 e5 c5 D5 => ?_
    have c5' : Chg (Sx vt a q) H4 H5 := c5.mono fun _ => sx_dyn
    simp only [semSL]
    refine kn _ m5 H5 ⟨L4.of fun y hy => e5 y (by rintro rfl; exact hy (by decide)), (e5 "variable" (by decide)).trans x1, (e5 "values" (by decide)).trans x2, (e5 "pushdomains" (by decide)).trans x3, c04.trans c5', ⟨ep2, .inr ⟨_, c5 _ _ a4 Z.na⟩⟩, c5 _ _ q4 Z.nq, cu4.chg c5', lv4.chg c5', I.nd, D5, p2, I.c.left hsub, ?_, I.stk, fun f hf => ?_⟩
    · show xs.length ≤ 2; omega
    · rcases I.rem f hf with ⟨E, h⟩ | h
      · refine .inl ⟨E, ?_⟩
        rw [hx] at h
        rcases List.mem_append.mp h with h | h
        · exact h
        · simp only [List.mem_singleton] at h
          exact absurd h (s2 (by simpa using hb) f hf E)
      · exact .inr h

/-- the inner loop -/
theorem loopIn {n : Nat} (hn : 3 ≤ n) (Z : GenS H0 N vt dd vc lsts ents a q) {Q : Fl → Loc → Hp → Prop}
    (qret : (∀ f, N.Sol f → False) → ∀ m H, Chg (Sx vt a q) H0 H → Q (.ret .none) m H) :
    ∀ (K : Nat) (l : Lv) (lv : List Lv) (σ : Sg) (m : Loc) (H : Hp), nu (l :: lv) < K → IQ H0 N vt slf dd vc a q fb l lv σ m H →
      (∀ l' lv' σ' m' H', mu N.n (l' :: lv') ≤ cs N.n (l :: lv) → NQ H0 N vt slf dd vc a q fb l' lv' σ' m' H' → Q .next m' H') →
      whlN (fun m' => (semX (CX prog w n) m' (.lit (.bool true))).t) (semSL (CX prog w n) bodyIn) (semSL (CX prog w n) .nil) Q K m H := by
  intro K
  induction K with
  | zero => exact fun l lv σ m H h => absurd h (Nat.not_lt_zero _)
  | succ K ih =>
    intro l lv σ m H hK I qn
    rw [whlN]
    simp only [semX, VT.of, truthP, if_true]
    show semSL (CX prog w n) (.cons (.ife (.not (.loc "values")) (.cons (.delIdx (.loc "assignments") (.loc "variable")) (.cons (.whl (.loc "queue") bodyPQ (.cons (.ret (.lit .none)) .nil)) .nil)) .nil) inn2) _ m H
    rw [semSL.eq_2, semS]
    simp only [semX, VT.of, I.vals, e_truth_list I.cur.vals]
    -- a turn at a level with a value
    have go : ∀ (l : Lv) (lv0 : List Lv) (σ : Sg) (m : Loc) (H : Hp), l.xs ≠ [] → nu (l :: lv0) ≤ K → (∀ l' lv' σ' m' H', mu N.n (l' :: lv') ≤ cs N.n (l :: lv0) → NQ H0 N vt slf dd vc a q fb l' lv' σ' m' H' → Q .next m' H') →
        IQ H0 N vt slf dd vc a q fb l lv0 σ m H →
        semSL (CX prog w n) inn2 (fun fl m' H'' => match fl with
          | .next | .cont => whlN (fun m' => (semX (CX prog w n) m' (.lit (.bool true))).t) (semSL (CX prog w n) bodyIn) (semSL (CX prog w n) .nil) Q K m' H''
          | .brk => Q .next m' H''
          | .ret v => Q (.ret v) m' H'') m H := by
      intro l lv0 σ m H hx hnu qn1 I
      obtain ⟨xs, x, hxs⟩ : ∃ xs x, l.xs = xs ++ [x] := ⟨l.xs.dropLast, l.xs.getLast hx, (List.dropLast_concat_getLast hx).symm⟩
      have hl : xs.length + 1 = l.xs.length := by rw [hxs]; simp
      refine turnIn hn Z I hxs (fun σ' m' H' I' => qn1 _ lv0 σ' m' H' ?_ I') fun σ' m' H' I' => ?_
      · exact Nat.le_of_eq (mu_back (l := l) (l' := (l.left xs).now x) hl)
      · refine ih (l.left xs) lv0 σ' m' H' ?_ I' fun l' lv' σ' m' H' h => qn1 l' lv' σ' m' H' (Nat.le_trans h ?_)
        · have : nu (l :: lv0) = xs.length + 1 + nu lv0 := by simp only [nu]; rw [← hl]
          show xs.length + nu lv0 < K
          omega
        · simp only [cs]
          have : (l.left xs).xs.length ≤ l.xs.length := by show xs.length ≤ _; omega
          have := Nat.mul_le_mul_right (T3 (N.n - (lv0.length + 1))) this
          omega
    by_cases hx : l.xs = []
    · have hb : (l.xs.map AV.int).isEmpty = true := by rw [hx]; rfl
      simp only [hb, Bool.not_true, Bool.not_false, if_true]
      have dct : ∃ y ep, H a = some (.dict (asgOf lv ++ [((l.v : Int), y)]) ep) := by
        obtain ⟨ep, ⟨_, h⟩ | ⟨y, h⟩⟩ := I.dct
        · exact absurd hx h
        · exact ⟨y, ep, h⟩
      obtain ⟨y, ep, ha⟩ := dct
      rw [semSL.eq_2, semS]
      simp only [semX, VT.of, I.loc.l5, I.v, e_delItem ha]
      refine ⟨by rw [look_snoc _ _ _ I.c.new]; simp, fun ep2 => ?_⟩
      rw [drop_snoc I.c.new]
      have c1 : Chg (Sx vt a q) H (upd H a (.dict (asgOf lv) ep2)) := (Chg.refl _ _).upd sx_a
      rw [semSL.eq_2, semS]
      have P0 : PQ H0 N vt slf dd vc a q fb lv σ m (upd H a (.dict (asgOf lv) ep2)) := ⟨I.loc, I.chg.trans c1, ⟨ep2, upd_at⟩, upd_old I.que Z.ne.symm, I.lvs.chg c1, (List.nodup_cons.mp I.nd).2, I.dom.other Z.na (by simp [ha]), I.stk.eqv I.eqv, fun f hf => by
        rcases I.rem f hf with ⟨_, h⟩ | h
        · rw [hx] at h; simp at h
        · exact h⟩
      refine ⟨lv.length + 1, ?_⟩
      refine loopPQ (prog := prog) (w := w) (lsts := lsts) (ents := ents) (slf := slf) hn Z ?_ (lv.length + 1) lv σ m _ (Nat.lt_succ_self _) P0 ?_
      · exact fun no m' H' c => qret no m' H' c
      · intro l' r' σ' m' H' hpre h3 h4 h5 h6
        simp only [semSL.eq_1]
        refine go l' r' σ' m' H' h5 ?_ (fun l'' lv'' σ'' m'' H'' hm I'' => qn l'' lv'' σ'' m'' H'' ?_ I'') h6
        · have : nu (l :: lv) = l.xs.length + nu lv := rfl
          omega
        · have := cs_tail (n := N.n) (l := l) (r := lv); omega
    · have hb : (l.xs.map AV.int).isEmpty = false := by cases h : l.xs with | nil => exact absurd h hx | cons _ _ => rfl
      simp only [hb, Bool.not_false, Bool.not_true, Bool.false_eq_true, if_false, semSL]
      exact go l lv σ m H hx (by omega) qn I
end
end Csp

namespace Csp
open PySem PySem.W PySem.Calls PyProof.Rows PySem.SeqAt Builtin Builtin.ObjectAttr

def x169 : SL := .cons (.assign "variable" (.idx (.loc "item") (.neg (.lit (.int 1))))) (.cons (.assign "values" (.full (.idx (.loc "domains") (.loc "variable")))) (.cons (stPd (.and2 (.cmp .NotIn (.loc "x") (.loc "assignments")) (.cmp .NotEq (.loc "x") (.loc "variable")))) (.cons .brk .nil)))
def e169 : SL := .cons (.yld (.meth (.loc "assignments") "copy" .nil)) (.cons (.ife (.not (.loc "queue")) (.cons (.ret (.lit .none)) .nil) .nil) (.cons (.assignT ["variable", "values", "pushdomains"] (.meth (.loc "queue") "pop" .nil)) (.cons (stPP "popState") .nil)))
def app169 : SL := .cons (.expr (.meth (.loc "queue") "append" (.cons (.tup (.cons (.loc "variable") (.cons (.loc "values") (.cons (.loc "pushdomains") .nil)))) .nil))) .nil
def bodyOut : SL := .cons stLst (.cons stSort (.cons (stFind x169 e169) (.cons (.whl (.lit (.bool true)) bodyIn .nil) app169)))
theorem b169_eq : b169g = .cons (.assign "forwardcheck" (.attr (.loc "self") "_forwardcheck")) (.cons (.assign "assignments" .dict0) (.cons (.assign "queue" (.list .nil)) (.cons (.whl (.lit (.bool true)) bodyOut .nil) (.cons .bad .nil)))) := rfl

/-- the state between two choices -/
structure OQ (H0 : Hp) (N : Net) (vt : List Vr) (slf dd vc a q : Addr) (fb : Bool) (lv : List Lv) (σ : Sg) (m : Loc) (H : Hp) : Prop where
  loc : LocG m slf dd vc a q fb
  chg : Chg (Sx vt a q) H0 H
  dct : ∃ ep, H a = some (.dict (asgOf lv) ep)
  que : H q = some (.list (zsOf lv))
  lvs : LvsAt H0 H (Sx vt a q) N vt fb lv
  nd : (lv.map (·.vals)).Nodup
  dom : Doms H vt σ
  good : Good N (asgOf lv) σ
  stk : Stk N fb lv σ
  sts : ∀ k, k < N.n → (σ k).sts.length ≤ lv.length
  rem : ∀ f, N.Sol f → Ext (asgOf lv) f ∨ Rem lv f

theorem LvsAt.known {H0 H : Hp} {S : List Addr} {N : Net} {vt : List Vr} {fb : Bool} : ∀ {lv : List Lv}, LvsAt H0 H S N vt fb lv → ∀ u ∈ lv.map (·.vals), H u ≠ none
  | [], _, u, hu => by cases hu
  | l :: r, h, u, hu => by
    simp only [List.map_cons, List.mem_cons] at hu
    rcases hu with rfl | hu
    · rw [h.2.2.1.vals]; simp
    · exact LvsAt.known h.2.2.2 u hu
theorem two_of : ∀ {xs : List Int}, xs.Nodup → (∀ x ∈ xs, x = 0 ∨ x = 1) → xs.length ≤ 2
  | [], _, _ => by simp
  | [a], _, _ => by simp
  | [a, b], _, _ => by simp
  | a :: b :: c :: r, h1, h2 => by
    have ha := h2 a (by simp)
    have hb := h2 b (by simp)
    have hc := h2 c (by simp)
    simp only [List.nodup_cons, List.mem_cons, not_or] at h1
    obtain ⟨⟨x1, x2, _⟩, ⟨x3, _⟩, _⟩ := h1
    rcases ha with rfl | rfl <;> rcases hb with rfl | rfl <;> rcases hc with rfl | rfl <;> simp_all

section
variable {prog : Program} {w : World} {H0 H : Hp} {N : Net} {vt : List Vr} {dd vc : Addr} {lsts : Nat → Addr} {ents : Nat → List Ent} {slf a q sdx : Addr} {fb : Bool}

theorem loopOut {n : Nat} (hn : 3 ≤ n) (Z : GenS H0 N vt dd vc lsts ents a q) {Q : Fl → Loc → Hp → Prop}
    (qret : (∀ f, N.Sol f → False) → ∀ m H, Chg (Sx vt a q) H0 H → Q (.ret .none) m H)
    (qyld : ∀ m H b f asg ep, Chg (Sx vt a q) H0 H → H b = some (.dict asg ep) → N.Sol f → (∀ k, k < N.n → look asg (k : Int) = some (.int (f k))) → Q (.ret (.other (.ref b))) m H) :
    ∀ (K : Nat) (lv : List Lv) (σ : Sg) (m : Loc) (H : Hp), mu N.n lv < K → OQ H0 N vt slf dd vc a q fb lv σ m H →
      whlN (fun m' => (semX (CX prog w n) m' (.lit (.bool true))).t) (semSL (CX prog w n) bodyOut) (semSL (CX prog w n) .nil) Q K m H := by
  intro K
  induction K with
  | zero => exact fun lv σ m H h => absurd h (Nat.not_lt_zero _)
  | succ K ih =>
    intro lv σ m H hK I
    rw [whlN]
    simp only [semX, VT.of, truthP, if_true]
    show semSL (CX prog w n) (.cons stLst (.cons stSort (.cons (stFind x169 e169) (.cons (.whl (.lit (.bool true)) bodyIn .nil) app169)))) _ m H
    generalize hC : (fun (fl : Fl) (m' : Loc) (H'' : Hp) => _) = C
    have C1 : ∀ m' H', C .next m' H' = whlN (fun m' => (semX (CX prog w n) m' (.lit (.bool true))).t) (semSL (CX prog w n) bodyOut) (semSL (CX prog w n) .nil) Q K m' H' := fun m' H' => by rw [← hC]; rfl
    have C2 : ∀ v m' H', C (.ret v) m' H' = Q (.ret v) m' H' := fun v m' H' => by rw [← hC]
    clear hC
    have R := Z.srch.chg I.chg
    obtain ⟨ep, ha⟩ := I.dct
    have known : ∀ x ∈ Sx vt a q, H x ≠ none := fun x hx => by
      rcases List.mem_append.mp hx with h | h
      · exact I.dom.known x h
      · simp only [List.mem_cons, List.not_mem_nil, or_false] at h
        rcases h with rfl | rfl
        · rw [ha]; simp
        · rw [I.que]; simp
    refine sem_pick R I.dom Z.ok.small I.loc.l0 I.loc.l3 I.loc.l4 I.loc.l5 ha (fun v m1 H1 hv hnv e1 c1 he KK hKK => ?_) fun hall m1 H1 e1 c1 => ?_
    · -- a choice
      obtain ⟨e, ke, rfl, ie⟩ := he
      have hg : ∀ Q, getP [.int e.x, .int e.y, .int (e.k : Int)] (-1) Q H1 = Q (.int (e.k : Int)) H1 := fun Q => rfl
      rw [x169, semSL.eq_2, semS]
      simp only [semX, VT.of, ie, e_idx_tup ke, hg]
      generalize e.k = v at *
      have c1' : Chg (Sx vt a q) H H1 := c1.mono (by simp)
      have L1 : LocG m1 slf dd vc a q fb := I.loc.of fun y hy => e1 y (by rintro rfl; exact hy (by decide)) (by rintro rfl; exact hy (by decide))
      have L2 : LocG (upL m1 "variable" (.int (v : Int))) slf dd vc a q fb := L1.of fun y hy => by
        have : y ≠ "variable" := by rintro rfl; exact hy (by decide)
        simp [upL, this]
      have t2 : (upL m1 "variable" (.int (v : Int))) "variable" = some (.int (v : Int)) := by simp [upL]
      generalize upL m1 "variable" (.int (v : Int)) = m2 at L2 t2 ⊢
      have R1 := R.chg c1'
      obtain ⟨ed, hd1⟩ := R1.dom
      have D1 := I.dom.chg0 c1
      obtain ⟨vr, hvr⟩ : ∃ v', vt[v]? = some v' := ⟨_, List.getElem?_eq_getElem (by rw [R.len]; exact hv)⟩
      rw [semSL.eq_2, semS]
      simp only [semX, VT.of, L2.l3, t2, e_idx_dict hd1, tab_look vt v vr hvr, e_full_dom (D1 v vr hvr).dom, newP]
      intro vals fz
      have fzH : Fresh H vals := fz.back c1
      have nvS : vals ∉ Sx vt a q := fun h => known vals h fzH.1
      have hz2 : (upd H1 vals (.list ((σ v).vis.map .int))) vals = some (.list ((σ v).vis.map .int)) := upd_at
      have c2 : Chg [] H1 (upd H1 vals (.list ((σ v).vis.map .int))) := (Chg.refl [] H1).new fz
      generalize upd H1 vals (.list ((σ v).vis.map .int)) = H2 at hz2 c2 ⊢
      have L3 : LocG (upL m2 "values" (.ref vals)) slf dd vc a q fb := L2.of fun y hy => by
        have : y ≠ "values" := by rintro rfl; exact hy (by decide)
        simp [upL, this]
      have t3 : (upL m2 "values" (.ref vals)) "variable" = some (.int (v : Int)) := by simp [upL, t2]
      have t4 : (upL m2 "values" (.ref vals)) "values" = some (.ref vals) := by simp [upL]
      generalize upL m2 "values" (.ref vals) = m3 at L3 t3 t4 ⊢
      have c02 : Chg [] H H2 := c1.trans c2
      have c02' : Chg (Sx vt a q) H H2 := c02.mono (by simp)
      have ha2 := c02 _ _ ha (by simp)
      have known2 : ∀ x ∈ Sx vt a q, H2 x ≠ none := fun x hx => by
        cases e : H x with
        | none => exact absurd e (known x hx)
        | some o => rw [c02 x o e (by simp)]; simp
      rw [semSL.eq_2]
      refine sem_pd (b := fun k => (look (asgOf lv) (k : Int)).isNone && k != v) (R.chg c02') known2 Z.ok.small L3.l0 L3.l3 L3.l7 (fun i R' H' li c' z => ?_) fun m4 H4 pd e4 c4 i4 P => ?_
      · have g := c' _ _ ha2 (by simp)
        simp only [semX, VT.of, upL, if_true, show ("assignments" : String) = "x" ↔ False from by decide, show ("variable" : String) = "x" ↔ False from by decide, if_false, L3.l5, t3, cmpP, e_in_dict g, look_any, eqP]
        cases h : look (asgOf lv) (i : Int) with
        | none =>
          rw [h] at z
          simp only [Option.isNone_none, Bool.true_and] at z
          simp only [Option.isSome_none, Bool.not_false, if_true]
          refine ⟨rfl, ?_⟩
          have : (!((i : Int) == (v : Int))) = (i != v) := by
            by_cases h2 : i = v
            · subst h2; simp
            · have h3 : ¬ (i : Int) = v := by omega
              have h4 : (i != v) = true := by simpa using h2
              rw [h4]; simpa using h3
          rw [this]; exact z
        | some u =>
          rw [h] at z
          simp only [Option.isNone_some, Bool.false_and] at z
          simp only [Option.isSome_some, Bool.not_true, Bool.false_eq_true, if_false]
          exact z
      · have L4 : LocG m4 slf dd vc a q fb := L3.of fun y hy => e4 y (by rintro rfl; exact hy (by decide))
        have u1 := (e4 "variable" (by decide)).trans t3
        have u2 := (e4 "values" (by decide)).trans t4
        simp only [semSL.eq_2, semS]
        refine hKK m4 H4 ?_
        rw [semSL.eq_2, semS]
        have c04 : Chg [] H H4 := c02.trans c4
        have c04' : Chg (Sx vt a q) H H4 := c04.mono (by simp)
        have C0 : Cur N ⟨v, 0, vals, (σ v).vis, pd, σ, 0⟩ lv := ⟨hv, hnv, I.good, fun x hx => hx, I.sts⟩
        have two : (σ v).vis.length ≤ 2 := two_of (I.good.ok v hv).1 fun x hx => Z.ok.bin v hv x (I.good.sub v hv hnv x hx)
        have I0 : IQ H0 N vt slf dd vc a q fb ⟨v, 0, vals, (σ v).vis, pd, σ, 0⟩ lv σ m4 H4 :=
          ⟨L4, u1, u2, i4, I.chg.trans c04', ⟨ep, .inl ⟨c04 _ _ ha (by simp), I.good.ne v hv hnv⟩⟩, c04 _ _ I.que (by simp), ⟨c4 _ _ hz2 (by simp), nvS, (fzH.backS I.chg nvS).1, P⟩, I.lvs.chg c04', List.nodup_cons.mpr ⟨fun h => I.lvs.known _ h fzH.1, I.nd⟩, I.dom.chg0 c04, fun k hk => Eqv.refl _, C0, two, I.stk, fun f hf => by
            rcases I.rem f hf with E | h
            · exact .inl ⟨E, I.good.keep f hf E v hv hnv⟩
            · exact .inr h⟩
        refine ⟨nu (⟨v, 0, vals, (σ v).vis, pd, σ, 0⟩ :: lv) + 1, ?_⟩
        refine loopIn (prog := prog) (w := w) (lsts := lsts) (ents := ents) (slf := slf) hn Z ?_ _ _ lv σ m4 H4 (Nat.lt_succ_self _) I0 ?_
        · exact fun no m' H' c => by
            show C (.ret .none) m' H'
            rw [C2]; exact qret no m' H' c
        · intro l' lv' σ' m5 H5 hm J
          rw [app169, semSL.eq_2, semS]
          simp only [semX, semL, VT.of, J.loc.l6, J.v, J.vals, J.pd, e_meth_list J.que (by decide : "append" ≠ "preProcess"), listMeth]
          refine ⟨by simp, fun z fz5 => ?_⟩
          have c5 : Chg [] H5 (upd H5 z (.tuple [.int (l'.v : Int), .ref l'.vals, l'.pd])) := (Chg.refl [] H5).new fz5
          have hz5 : (upd H5 z (.tuple [.int (l'.v : Int), .ref l'.vals, l'.pd])) z = some (.tuple [.int (l'.v : Int), .ref l'.vals, l'.pd]) := upd_at
          generalize upd H5 z (.tuple [.int (l'.v : Int), .ref l'.vals, l'.pd]) = H6 at c5 hz5 ⊢
          have q6 := c5 _ _ J.que (by simp)
          dsimp only
          rw [e_app q6]
          have hlen : lv'.length < N.n := stk_len' J.stk.2.2.2 J.stk.1.lt J.stk.1.new
          have zl : (zsOf lv').length = lv'.length := by
            have : ∀ l : List Lv, (zsOf l).length = l.length := by
              intro l
              induction l with
              | nil => rfl
              | cons a r ih => simp [zsOf, ih]
            exact this _
          refine ⟨by rw [zl]; have := Z.ok.small; unfold big; omega, ?_⟩
          simp only [semSL.eq_1]
          rw [C1]
          obtain ⟨ep5, ha5⟩ := J.dct
          have known5 : z ∉ Sx vt a q := fun h => by
            rcases List.mem_append.mp h with h | h
            · exact J.dom.known z h fz5.1
            · simp only [List.mem_cons, List.not_mem_nil, or_false] at h
              rcases h with rfl | rfl
              · rw [fz5.1] at ha5; cases ha5
              · have := J.que; rw [fz5.1] at this; cases this
          have c5' : Chg (Sx vt a q) H5 H6 := c5.mono (by simp)
          have c6 : Chg (Sx vt a q) H6 (upd H6 q (.list (zsOf lv' ++ [.ref z]))) := (Chg.refl _ _).upd sx_sol
          have c56 := c5'.trans c6
          have cur6 := J.cur.chg c56
          refine ih ({ l' with z := z } :: lv') σ' m5 _ ?_ ⟨J.loc, J.chg.trans c56, ⟨ep5, upd_old (c5 _ _ ha5 (by simp)) Z.ne⟩, upd_at, ⟨c6 _ _ hz5 known5, known5, ⟨cur6.vals, cur6.nv, cur6.fv, cur6.pd⟩, J.lvs.chg c56⟩, J.nd, (J.dom.chg0 c5).other Z.nq (by simp [q6]), J.good, ⟨⟨J.stk.1.lt, J.stk.1.new, J.stk.1.good, J.stk.1.sub, J.stk.1.sts⟩, J.stk.2.1, J.stk.2.2.1, J.stk.2.2.2⟩, J.sts, J.rem⟩
          have h7 : mu N.n (⟨l'.v, z, l'.vals, l'.xs, l'.pd, l'.τ, l'.val⟩ :: lv') = mu N.n (l' :: lv') := rfl
          have h8 : cs N.n (⟨v, 0, vals, (σ v).vis, pd, σ, 0⟩ :: lv) < mu N.n lv := by
            have h9 := stk_len' I.stk hv hnv
            unfold mu
            simp only [cs]
            have e : N.n - lv.length = (N.n - (lv.length + 1)) + 1 := by omega
            rw [e, T3]
            have := Nat.mul_le_mul_right (T3 (N.n - (lv.length + 1))) two
            omega
          show mu N.n (⟨l'.v, z, l'.vals, l'.xs, l'.pd, l'.τ, l'.val⟩ :: lv') < K
          omega
    · -- all variables have a value
      rw [e169, semSL.eq_2, semS]
      have L1 : LocG m1 slf dd vc a q fb := I.loc.of fun y hy => e1 y (by rintro rfl; exact hy (by decide)) (by rintro rfl; exact hy (by decide))
      have ha1 := c1 _ _ ha (by simp)
      simp only [semX, semL, VT.of, L1.l5, e_meth_dict ha1 (by decide : "copy" ≠ "preProcess"), dictMeth, Option.map, biMeth, ha1]
      intro b epb fb'
      obtain ⟨f, hf, hl⟩ := good_full Z.ok I.good hall
      rw [C2]
      exact qyld m1 _ b f _ epb (I.chg.trans ((c1.mono (by simp)).new fb')) upd_at hf hl
end
end Csp

namespace Csp
open PySem PySem.W PySem.Calls PyProof.Rows PySem.SeqAt Builtin Builtin.ObjectAttr

section
variable {prog : Program} {w : World} {H0 H : Hp} {N : Net} {vt : List Vr} {dd vc : Addr} {lsts : Nat → Addr} {ents : Nat → List Ent} {slf a q sdx : Addr} {fb : Bool}

/-- the whole body of getSolutionIter, up to its first yield -/
theorem sem_169 {n : Nat} (hn : 3 ≤ n) (hN : N.ok) {σ : Sg} {m : Loc} {Q : Fl → Loc → Hp → Prop} (R : Srch H (dynOf vt) N vt dd vc lsts ents) (g1 : H slf = some (.inst 186 sdx)) (g2 : H sdx = some (.ns [("_forwardcheck", .bool fb)]))
    (G : Good N [] σ) (D : Doms H vt σ) (hs : ∀ k, k < N.n → (σ k).sts = [])
    (l0 : m ".0" = none) (l1 : m "self" = some (.ref slf)) (l3 : m "domains" = some (.ref dd)) (l4 : m "vconstraints" = some (.ref vc))
    (qret : (∀ f, N.Sol f → False) → ∀ m H', Chg (dynOf vt) H H' → Q (.ret .none) m H')
    (qyld : ∀ m H' b f asg ep, Chg (dynOf vt) H H' → H' b = some (.dict asg ep) → N.Sol f → (∀ k, k < N.n → look asg (k : Int) = some (.int (f k))) → Q (.ret (.other (.ref b))) m H') :
    semSL (CX prog w n) b169g Q m H := by
  rw [b169_eq, semSL.eq_2, semS]
  simp only [semX, VT.of, l1, e_attr_inst g1 g2, List.lookup]
  refine ⟨by decide, rfl, ?_⟩
  rw [semSL.eq_2, semS]
  simp only [semX, VT.of]
  intro a ep fa
  rw [semSL.eq_2, semS]
  simp only [semX, semL, VT.of]
  refine ⟨by simp, fun q fq => ?_⟩
  have c1 : Chg [] H (upd H a (.dict [] ep)) := (Chg.refl [] H).new fa
  have naq : a ≠ q := fun e => by have := fq.1; rw [← e, upd_at] at this; cases this
  have fq0 : Fresh H q := fq.back c1
  have c2 : Chg [] H (upd (upd H a (.dict [] ep)) q (.list [])) := c1.new fq
  have a2 : (upd (upd H a (.dict [] ep)) q (.list [])) a = some (.dict [] ep) := upd_old upd_at naq
  have q2 : (upd (upd H a (.dict [] ep)) q (.list [])) q = some (.list []) := upd_at
  generalize upd (upd H a (.dict [] ep)) q (.list []) = H0 at c2 a2 q2 ⊢
  have hT : ∀ y ∈ [a, q], H y = none := fun y hy => by
    simp only [List.mem_cons, List.not_mem_nil, or_false] at hy
    rcases hy with rfl | rfl
    · exact fa.1
    · exact fq0.1
  have kn : ∀ {x}, Fresh H x → x ∉ dynOf vt := fun f m => D.known _ m f.1
  have Z : GenS H0 N vt dd vc lsts ents a q := ⟨hN, (R.more hT).chg0 c2, kn fa, kn fq0, naq⟩
  have cd : ∀ {H'}, Chg (Sx vt a q) H0 H' → Chg (dynOf vt) H H' := fun {H'} c b x e nb => c b x (c2 b x e (by simp)) (not_more e nb hT)
  rw [semSL.eq_2, semS]
  have L0 : LocG (upL (upL (upL m "forwardcheck" (.bool fb)) "assignments" (.ref a)) "queue" (.ref q)) slf dd vc a q fb :=
    ⟨by simp [upL, l0], by simp [upL, l3], by simp [upL, l4], by simp [upL], by simp [upL], by simp [upL]⟩
  refine ⟨mu N.n [] + 1, ?_⟩
  refine loopOut (prog := prog) (w := w) (lsts := lsts) (ents := ents) (slf := slf) hn Z ?_ ?_ _ [] σ _ H0 (Nat.lt_succ_self _) ⟨L0, Chg.refl _ _, ⟨ep, a2⟩, q2, trivial, List.nodup_nil, D.chg0 c2, G, trivial, fun k hk => by rw [hs k hk]; simp, fun f hf => .inl fun k v e => by cases e⟩
  · exact fun no m' H' c => qret no m' H' (cd c)
  · exact fun m' H' b f asg ep' c h1 h2 h3 => qyld m' H' b f asg ep' (cd c) h1 h2 h3
end
end Csp

namespace Csp
open PySem PySem.W PySem.Calls PyProof.Rows PySem.SeqAt Builtin Builtin.ObjectAttr

section
variable {prog : Program} {w : World} {N : Net} {vt : List Vr} {dd vc : Addr} {lsts : Nat → Addr} {ents : Nat → List Ent} {slf sdx : Addr} {fb : Bool} {H : Hp}

theorem cx_176N (hN : N.ok) {cs : AV} {σ : Sg} {Q : AV → Hp → Prop} (R : Srch H (dynOf vt) N vt dd vc lsts ents) (g1 : H slf = some (.inst 186 sdx)) (g2 : H sdx = some (.ns [("_forwardcheck", .bool fb)])) (n3 : slf ≠ 347)
    (G : Good N [] σ) (D : Doms H vt σ) (hs : ∀ k, k < N.n → (σ k).sts = [])
    (qn : ∀ H', Chg (dynOf vt) H H' → (∀ f, N.Sol f → False) → Q .none H')
    (qs : ∀ H' b f asg ep, Chg (dynOf vt) H H' → H' b = some (.dict asg ep) → N.Sol f → (∀ k, k < N.n → look asg (k : Int) = some (.int (f k))) → Q (.ref b) H') :
    CX prog w 20 (.ref 176) [.ref slf, .ref dd, cs, .ref vc] Q H := by
  refine cx_176 (n := 18) g1 g2 n3 ?_
  exact sem_169 (by omega) hN R g1 g2 G D hs rfl rfl rfl rfl (fun no m H' c => qn H' c no) (fun m H' b f asg ep c h1 h2 h3 => qs H' b f asg ep c h1 h2 h3)

/-- the class of a solver -/
def svC : List Addr := [186, 225]
def svF (C : Addr) : Addr := if C = 186 then 176 else 215
theorem cx_solve (hN : N.ok) (h0 : 0 < N.n) {C : Addr} (hC : C ∈ svC) {cs : AV} {σ : Sg} {Q : AV → Hp → Prop} (R : Srch H (dynOf vt) N vt dd vc lsts ents) (g1 : H slf = some (.inst C sdx)) (g2 : H sdx = some (.ns [("_forwardcheck", .bool fb)])) (n1 : slf ∉ dynOf vt) (n2 : sdx ∉ dynOf vt) (n3 : slf ≠ 347)
    (G : Good N [] σ) (D : Doms H vt σ) (hs : ∀ k, k < N.n → (σ k).sts = [])
    (qn : ∀ H', Chg (dynOf vt) H H' → (∀ f, N.Sol f → False) → Q .none H')
    (qs : ∀ H' b f asg ep, Chg (dynOf vt) H H' → H' b = some (.dict asg ep) → N.Sol f → (∀ k, k < N.n → look asg (k : Int) = some (.int (f k))) → Q (.ref b) H') :
    CX prog w 20 (.ref (svF C)) [.ref slf, .ref dd, cs, .ref vc] Q H := by
  simp only [svC, List.mem_cons, List.not_mem_nil, or_false] at hC
  rcases hC with rfl | rfl
  · exact cx_176N hN R g1 g2 n3 G D hs qn qs
  · exact cx_215 hN h0 R g1 g2 n1 n2 n3 G D (fun k hk => by rw [hs k hk]; simp) qn qs
end
end Csp

namespace Csp
open PySem PySem.W PySem.Calls PyProof.Rows PySem.SeqAt Builtin Builtin.ObjectAttr

section
variable {prog : Program} {w : World} {n : Nat} {H0 H : Hp}

def bodyRem (c : E) : SL := .cons (.ife c (.cons (.expr (.meth (.loc "domain") "remove" (.cons (.loc "value") .nil))) .nil) .nil) .nil

theorem VrAt.dom1 {v : Vr} {vis hid sts : List AV} (D : VrAt H v vis hid sts) (vis' : List AV) : VrAt (upd H v.d (.dom 303 v.dx vis')) v vis' hid sts := by
  have hd : v.dx ≠ v.d := fun e => by have := D.ns; rw [e, D.dom] at this; exact absurd this (by simp)
  have hh : v.h ≠ v.d := fun e => by have := D.hid; rw [e, D.dom] at this; exact absurd this (by simp)
  have ht : v.t ≠ v.d := fun e => by have := D.sts; rw [e, D.dom] at this; exact absurd this (by simp)
  exact ⟨upd_at, upd_old D.ns hd, upd_old D.hid hh, upd_old D.sts ht, D.ne⟩

/-- a loop that removes the values of which P holds -/
theorem loopRem {c : E} {v : Vr} {hid sts zs : List AV} {z : Addr} {P : Int → Bool} {Q : Fl → Loc → Hp → Prop} (m0 : Loc) (s1 : m0 "domain" = some (.ref v.d)) (h0 : H0 z = some (.list zs)) (hz : z ≠ v.d)
    {B : Nat} {V0 : List Int} (hc : ∀ (x : Int) (m : Loc) (H : Hp) (vis : List Int) (R : Bool → Hp → Prop), m "value" = some (.int x) → (∀ y, y ≠ "value" → m y = m0 y) → Chg [v.d] H0 H → VrAt H v (vis.map .int) hid sts → vis.Nodup → vis.length ≤ B → x ∈ V0 → (∀ H', Chg [] H H' → R (P x) H') → (semX (CX prog w n) m c).t R H) :
    ∀ (rest A : List Int) (m : Loc) (H : Hp), (∀ y, y ≠ "value" → m y = m0 y) → Chg [v.d] H0 H → VrAt H v ((A ++ rest).map .int) hid sts → (A ++ rest).Nodup → (A ++ rest).length ≤ B → (∀ x ∈ rest, x ∈ V0) →
      (∀ m' H', (∀ y, y ≠ "value" → m' y = m0 y) → Chg [v.d] H0 H' → VrAt H' v ((A ++ rest.filter fun x => !P x).map .int) hid sts → Q .next m' H') →
      forL (fun H' => sameSrc H0 H' (.ref z)) (fun y Q' m' H' => bindT ["value"] y (fun m'' => semSL (CX prog w n) (bodyRem c) Q' m'') m' H') (semSL (CX prog w n) .nil) Q (rest.map .int) m H := by
  intro rest
  induction rest with
  | nil =>
    intro A m H k1 k2 D nd hB hV q
    simp only [List.map, forL, semSL]
    refine ⟨by simp only [sameSrc, h0, k2 _ _ h0 (by simpa using hz), and_self], q m H k1 k2 (by simpa using D)⟩
  | cons x r ih =>
    intro A m H k1 k2 D nd hB hV q
    rw [List.map_cons, forL]
    refine ⟨by simp only [sameSrc, h0, k2 _ _ h0 (by simpa using hz), and_self], ?_⟩
    have nx : x ∉ A := fun hm => by
      rw [List.nodup_append] at nd
      exact nd.2.2 x hm x (by simp) rfl
    have k1' : ∀ y, y ≠ "value" → upL m "value" (.int x) y = m0 y := fun y ny => by simp [upL, ny, k1 y ny]
    simp only [bindT, bodyRem]
    rw [semSL.eq_2, semS]
    refine hc x _ H _ _ (by simp [upL]) k1' k2 D nd hB (hV x (by simp)) fun H' c' => ?_
    have D' : VrAt H' v ((A ++ x :: r).map .int) hid sts := DomAt.chg D c' (by simp) (by simp) (by simp) (by simp)
    have k2' := k2.trans (c'.mono (by simp))
    cases hp : P x
    · simp only [Bool.false_eq_true, if_false, semSL]
      refine ih (A ++ [x]) _ H' k1' k2' (by simpa using D') (by simpa using nd) (by simpa using hB) (fun y hy => hV y (by simp [hy])) fun m' H'' a b d => q m' H'' a b ?_
      simpa [hp] using d
    · have t1 : (upL m "value" (.int x)) "domain" = some (.ref v.d) := (k1' _ (by decide)).trans s1
      have t2 : (upL m "value" (.int x)) "value" = some (.int x) := by simp [upL]
      have mm : methOf H' (.ref v.d) "remove" = some (.bi .domRemove) := by
        rw [e_meth_dom D'.dom D'.ns (by decide)]; rfl
      simp only [if_true, semSL, semS, semX, semL, VT.of, t1, t2, mm, e_remove D'.dom]
      refine ⟨all_ints _, by rw [any_num]; simp, ?_⟩
      rw [eraseInt_mid A r x nx]
      refine ih A _ _ k1' (k2'.upd (by simp)) (VrAt.dom1 D' _) ?_ (by simp at hB ⊢; omega) (fun y hy => hV y (by simp [hy])) fun m' H'' a b d => q m' H'' a b ?_
      · rw [List.nodup_append] at nd ⊢
        refine ⟨nd.1, (List.nodup_cons.mp nd.2.1).2, fun a ha b hb => nd.2.2 a ha b (by simp [hb])⟩
      · simpa [hp] using d

/-- one value of a constraint's only variable -/
def sat1 (con : Con) (x : Int) : Bool := (conR con [((con.ks.headD 0 : Nat), .int x)] false (fun _ => ⟨[], [], []⟩)).1
theorem conR_false (con : Con) (asg : As) (σ σ' : Sg) : (conR con asg false σ).1 = (conR con asg false σ').1 ∧ (conR con asg false σ).2 = σ := by
  cases con with
  | mx i ks =>
    simp only [conR, maxR]
    split <;> simp
  | mn i ks => simp [conR]
  | sm ks =>
    simp only [conR, someR]
    split
    · split
      · simp
      · simp
    · split <;> simp
theorem sat1_iff (con : Con) {k : Nat} (hk : con.ks = [k]) {x : Int} (hx : x = 0 ∨ x = 1) (f : Nat → Int) (hf : f k = x) : sat1 con x = true ↔ con.sat f := by
  have look1 : ∀ j : Int, look [((k : Int), AV.int x)] j = if j = (k : Int) then some (.int x) else none := fun j => by
    unfold look
    by_cases h : j = (k : Int)
    · rw [if_pos h]; simp [h]
    · have : ¬ (k : Int) = j := fun e => h e.symm
      rw [if_neg h]; simp [this]
  let g : Nat → Int := fun j => if j = k then x else 0
  have hg : Bin g := fun j => by
    show (if j = k then x else 0) = 0 ∨ (if j = k then x else 0) = 1
    split
    · exact hx
    · exact .inl rfl
  have E : Ext [((k : Int), .int x)] g := fun j v e => by
    rw [look1] at e
    by_cases h : (j : Int) = k
    · rw [if_pos h] at e
      have : j = k := by omega
      subst this
      show v = .int (if j = j then x else 0)
      rw [if_pos rfl]; exact (Option.some.inj e).symm
    · rw [if_neg h] at e; cases e
  have sg : con.sat g ↔ con.sat f := by
    have e1 : g k = x := if_pos rfl
    cases con with
    | mx i ks => simp only [Con.ks] at hk; subst hk; simp [Con.sat, e1, hf]
    | mn i ks => simp only [Con.ks] at hk; subst hk; simp [Con.sat, e1, hf]
    | sm ks => simp only [Con.ks] at hk; subst hk; simp [Con.sat, e1, hf]
  rw [← sg]
  unfold sat1
  rw [hk]
  show (conR con [((k : Int), .int x)] false (fun _ => ⟨[], [], []⟩)).1 = true ↔ con.sat g
  constructor
  · exact con_done con E (fun j hj => by
      rw [hk] at hj
      simp only [List.mem_cons, List.not_mem_nil, or_false] at hj
      subst hj
      rw [look1, if_pos rfl]; simp)
  · intro h
    rw [(conR_false con _ _ (fun j => ⟨[g j], [], []⟩)).1]
    refine (con_keep con (n := k + 1) hg E (fun j hj => ?_) (fun j hj e => ?_) h).1
    · rw [hk] at hj
      simp only [List.mem_cons, List.not_mem_nil, or_false] at hj
      omega
    · simp
end
end Csp

namespace Csp
open PySem PySem.W PySem.Calls PyProof.Rows PySem.SeqAt Builtin Builtin.ObjectAttr

theorem pair_ent {H : Hp} {S : List Addr} {e : Ent} (E : EntAt H S e) : pairOf H (.ref e.z) = some (e.c, e.vl) ∧ isCons H (.ref e.z) := by
  obtain ⟨C, dx, h1, h2⟩ := E.con.inst
  have h3 : pairOf H (.ref e.z) = some (e.c, e.vl) := by
    unfold pairOf
    simp only [E.tup, h1]
  refine ⟨h3, ?_⟩
  simp only [isCons, h3, h1]
  exact h2
theorem erase_ents {H : Hp} {S : List Addr} : ∀ (L : List Ent) (e : Ent), (∀ x ∈ L, EntAt H S x) → (L.map (·.c)).Nodup → e ∈ L → erasePair H e.c e.vl (L.map fun x => .ref x.z) = some ((L.filter fun x => x.c != e.c).map fun x => .ref x.z)
  | [], e, _, _, h => by cases h
  | x :: r, e, hE, nd, h => by
    simp only [List.map_cons, List.nodup_cons] at nd
    have hx := (pair_ent (hE x (by simp))).1
    rw [List.map_cons]
    unfold erasePair
    rw [hx]
    by_cases hc : x.c = e.c
    · have : e = x := by
        rcases List.mem_cons.mp h with h | h
        · exact h
        · exact absurd (List.mem_map.mpr ⟨e, h, hc.symm⟩) nd.1
      subst this
      simp only [if_true]
      have : r.filter (fun x => x.c != e.c) = r := List.filter_eq_self.mpr fun y hy => by
        simp only [bne_iff_ne]
        intro e2
        exact nd.1 (List.mem_map.mpr ⟨y, hy, e2⟩)
      simp [this]
    · have hm : e ∈ r := by
        rcases List.mem_cons.mp h with h | h
        · subst h; exact absurd rfl hc
        · exact h
      simp only [if_neg hc]
      rw [erase_ents r e (fun y hy => hE y (by simp [hy])) nd.2 hm]
      have : (x.c != e.c) = true := by simpa using hc
      simp [this]

/-- the addresses that _getArgs may change while constraints are preprocessed -/
def Sp (vt : List Vr) (lcs : Addr) (lsts : Nat → Addr) : List Addr := dynOf vt ++ (lcs :: (List.range vt.length).map lsts)
structure PreS (vt : List Vr) (lcs : Addr) (lsts : Nat → Addr) : Prop where
  ap : vt.Pairwise Apart
  nl : lcs ∉ dynOf vt
  nk : ∀ k, k < vt.length → lsts k ∉ dynOf vt ∧ lcs ≠ lsts k
  inj : ∀ j k, j < vt.length → k < vt.length → lsts j = lsts k → j = k
theorem sp_dyn {vt : List Vr} {lcs : Addr} {lsts : Nat → Addr} {a : Addr} (h : a ∈ dynOf vt) : a ∈ Sp vt lcs lsts := List.mem_append_left _ h
theorem sp_lcs {vt : List Vr} {lcs : Addr} {lsts : Nat → Addr} : lcs ∈ Sp vt lcs lsts := List.mem_append_right _ (by simp)
theorem sp_lst {vt : List Vr} {lcs : Addr} {lsts : Nat → Addr} {k : Nat} (h : k < vt.length) : lsts k ∈ Sp vt lcs lsts :=
  List.mem_append_right _ (List.mem_cons_of_mem _ (List.mem_map.mpr ⟨k, by simpa using h, rfl⟩))
/-- the state between two constraints -/
structure PP (vt : List Vr) (dd vc lcs : Addr) (lsts : Nat → Addr) (L : List Ent) (M : Nat → List Ent) (σ : Sg) (H : Hp) : Prop where
  dom : ∃ ep, H dd = some (.dict (tab vt) ep)
  nd : dd ∉ Sp vt lcs lsts
  vcd : ∃ ep, H vc = some (.dict ((List.range vt.length).map fun (k : Nat) => ((k : Int), AV.ref (lsts k))) ep)
  nv : vc ∉ Sp vt lcs lsts
  lc : H lcs = some (.list (L.map fun e => .ref e.z))
  lst : ∀ k, k < vt.length → H (lsts k) = some (.list ((M k).map fun e => .ref e.z))
  ent : ∀ e ∈ L, EntAt H (Sp vt lcs lsts) e
  entM : ∀ k, k < vt.length → ∀ e ∈ M k, EntAt H (Sp vt lcs lsts) e
  nodup : (L.map (·.c)).Nodup
  nodupM : ∀ k, k < vt.length → ((M k).map (·.c)).Nodup
  doms : Doms H vt σ
  ok : ∀ k, k < vt.length → okS (σ k) ∧ (∀ x ∈ (σ k).vis, x = 0 ∨ x = 1)
theorem PP.chg0 {vt : List Vr} {dd vc lcs : Addr} {lsts : Nat → Addr} {L : List Ent} {M : Nat → List Ent} {σ : Sg} {H H' : Hp} (P : PP vt dd vc lcs lsts L M σ H) (c : Chg [] H H') : PP vt dd vc lcs lsts L M σ H' where
  dom := by obtain ⟨e, h⟩ := P.dom; exact ⟨e, c _ _ h (by simp)⟩
  nd := P.nd
  vcd := by obtain ⟨e, h⟩ := P.vcd; exact ⟨e, c _ _ h (by simp)⟩
  nv := P.nv
  lc := c _ _ P.lc (by simp)
  lst k hk := c _ _ (P.lst k hk) (by simp)
  ent e he := (P.ent e he).chg (c.mono (by simp))
  entM k hk e he := (P.entM k hk e he).chg (c.mono (by simp))
  nodup := P.nodup
  nodupM := P.nodupM
  doms := P.doms.chg0 c
  ok := P.ok

theorem nodup_sub {L : List Ent} {p : Ent → Bool} (h : (L.map (·.c)).Nodup) : ((L.filter p).map (·.c)).Nodup := List.Nodup.sublist (List.Sublist.map _ List.filter_sublist) h
/-- the list of all constraints loses one -/
theorem PP.lcs' {vt : List Vr} {dd vc lcs : Addr} {lsts : Nat → Addr} {L : List Ent} {M : Nat → List Ent} {σ : Sg} {H : Hp} (Z : PreS vt lcs lsts) (P : PP vt dd vc lcs lsts L M σ H) (p : Ent → Bool) : PP vt dd vc lcs lsts (L.filter p) M σ (upd H lcs (.list ((L.filter p).map fun e => .ref e.z))) := by
  have c : Chg (Sp vt lcs lsts) H (upd H lcs (.list ((L.filter p).map fun e => .ref e.z))) := (Chg.refl _ _).upd sp_lcs
  refine ⟨?_, P.nd, ?_, P.nv, upd_at, fun k hk => upd_old (P.lst k hk) (Z.nk k hk).2.symm, fun e he => (P.ent e (List.mem_filter.mp he).1).chg c, fun k hk e he => (P.entM k hk e he).chg c, nodup_sub P.nodup, P.nodupM, P.doms.other Z.nl (by simp [P.lc]), P.ok⟩
  · obtain ⟨e, h⟩ := P.dom; exact ⟨e, c _ _ h P.nd⟩
  · obtain ⟨e, h⟩ := P.vcd; exact ⟨e, c _ _ h P.nv⟩
/-- a variable's list of constraints loses one -/
def setM (M : Nat → List Ent) (k : Nat) (l : List Ent) : Nat → List Ent := fun j => if j = k then l else M j
theorem PP.lst' {vt : List Vr} {dd vc lcs : Addr} {lsts : Nat → Addr} {L : List Ent} {M : Nat → List Ent} {σ : Sg} {H : Hp} (Z : PreS vt lcs lsts) (P : PP vt dd vc lcs lsts L M σ H) (p : Ent → Bool) {k : Nat} (hk : k < vt.length) : PP vt dd vc lcs lsts L (setM M k ((M k).filter p)) σ (upd H (lsts k) (.list (((M k).filter p).map fun e => .ref e.z))) := by
  have c : Chg (Sp vt lcs lsts) H (upd H (lsts k) (.list (((M k).filter p).map fun e => .ref e.z))) := (Chg.refl _ _).upd (sp_lst hk)
  refine ⟨?_, P.nd, ?_, P.nv, upd_old P.lc (Z.nk k hk).2, fun j hj => ?_, fun e he => (P.ent e he).chg c, fun j hj e he => ?_, P.nodup, fun j hj => ?_, P.doms.other (Z.nk k hk).1 (by simp [P.lst k hk]), P.ok⟩
  · obtain ⟨e, h⟩ := P.dom; exact ⟨e, c _ _ h P.nd⟩
  · obtain ⟨e, h⟩ := P.vcd; exact ⟨e, c _ _ h P.nv⟩
  · unfold setM
    by_cases e : j = k
    · subst e; rw [if_pos rfl]; exact upd_at
    · rw [if_neg e]
      exact upd_old (P.lst j hj) (fun e2 => e (Z.inj j k hj hk e2))
  · unfold setM at he
    by_cases e2 : j = k
    · subst e2; rw [if_pos rfl] at he; exact (P.entM j hj e (List.mem_filter.mp he).1).chg c
    · rw [if_neg e2] at he; exact (P.entM j hj e he).chg c
  · unfold setM
    by_cases e2 : j = k
    · subst e2; rw [if_pos rfl]; exact nodup_sub (P.nodupM j hj)
    · rw [if_neg e2]; exact P.nodupM j hj
/-- a domain loses values -/
def cutS (P : Int → Bool) (s : DS) : DS := ⟨s.vis.filter fun x => !P x, s.hid, s.sts⟩
theorem okS.cut {P : Int → Bool} {s : DS} (h : okS s) : okS (cutS P s) := ⟨List.Nodup.sublist List.filter_sublist h.1, by
  have := h.2
  have h2 := List.length_filter_le (fun x => !P x) s.vis
  show s.hid.length + (s.vis.filter fun x => !P x).length < 100
  omega⟩
theorem PP.dom' {vt : List Vr} {dd vc lcs : Addr} {lsts : Nat → Addr} {L : List Ent} {M : Nat → List Ent} {σ : Sg} {H H' : Hp} (Z : PreS vt lcs lsts) (P : PP vt dd vc lcs lsts L M σ H) {k : Nat} {v : Vr} (hv : vt[k]? = some v) (c : Chg [v.d] H H') {p : Int → Bool} (D : VrAt H' v ((cutS p (σ k)).vis.map .int) ((cutS p (σ k)).hid.map .int) ((cutS p (σ k)).sts.map .int)) :
    PP vt dd vc lcs lsts L M (σ.set k (cutS p (σ k))) H' := by
  obtain ⟨d1, d2, d3⟩ := dyn_mem hv
  have cS : Chg (Sp vt lcs lsts) H H' := c.mono (by simp; exact sp_dyn d1)
  have nd' : ∀ {a}, a ∉ dynOf vt → a ∉ [v.d] := fun h => by simp; rintro rfl; exact h d1
  refine ⟨?_, P.nd, ?_, P.nv, c _ _ P.lc (nd' Z.nl), fun j hj => c _ _ (P.lst j hj) (nd' (Z.nk j hj).1), fun e he => (P.ent e he).chg cS, fun j hj e he => (P.entM j hj e he).chg cS, P.nodup, P.nodupM, P.doms.one Z.ap hv (c.mono (by simp)) D, fun j hj => ?_⟩
  · obtain ⟨e, h⟩ := P.dom; exact ⟨e, cS _ _ h P.nd⟩
  · obtain ⟨e, h⟩ := P.vcd; exact ⟨e, cS _ _ h P.nv⟩
  · unfold Sg.set
    by_cases e : j = k
    · subst e; rw [if_pos rfl]
      exact ⟨(P.ok j hj).1.cut, fun x hx => (P.ok j hj).2 x (List.mem_filter.mp hx).1⟩
    · rw [if_neg e]; exact P.ok j hj
end Csp

namespace Csp
open PySem PySem.W PySem.Calls PyProof.Rows PySem.SeqAt Builtin Builtin.ObjectAttr

theorem Doms.same {H H' : Hp} {vt : List Vr} {σ : Sg} (D : Doms H vt σ) (D' : Doms H' vt σ) (c : Chg (dynOf vt) H H') : Chg [] H H' := fun b x e _ => by
  by_cases h : b ∈ dynOf vt
  · unfold dynOf at h
    rw [List.mem_flatMap] at h
    obtain ⟨v, hv, hm⟩ := h
    obtain ⟨i, hi, rfl⟩ := List.getElem_of_mem hv
    have V := D i _ (List.getElem?_eq_getElem hi)
    have V' := D' i _ (List.getElem?_eq_getElem hi)
    simp only [List.mem_cons, List.not_mem_nil, or_false] at hm
    rcases hm with rfl | rfl | rfl
    · rw [V.dom] at e; rw [V'.dom]; exact e
    · rw [V.hid] at e; rw [V'.hid]; exact e
    · rw [V.sts] at e; rw [V'.sts]; exact e
  · exact c b x e h

def c336 : E := .not (.call (.loc "self") (.cons (.loc "variables") (.cons (.loc "domains") (.cons (.dict1 (.loc "variable") (.loc "value")) (.cons (.lit (.bool false)) .nil)))))
theorem b336_eq : b336 = .cons (.ife (.cmp .Eq (.bi .len (.cons (.loc "variables") .nil)) (.lit (.int 1))) (.cons (.assign "variable" (.idx (.loc "variables") (.lit (.int 0)))) (.cons (.assign "domain" (.idx (.loc "domains") (.loc "variable"))) (.cons (.for1 ["value"] (.full (.loc "domain")) (bodyRem c336) .nil)
    (.cons (.expr (.meth (.loc "constraints") "remove" (.cons (.tup (.cons (.loc "self") (.cons (.loc "variables") .nil))) .nil))) (.cons (.expr (.meth (.idx (.loc "vconstraints") (.loc "variable")) "remove" (.cons (.tup (.cons (.loc "self") (.cons (.loc "variables") .nil))) .nil))) .nil))))) .nil) .nil := rfl

section
variable {prog : Program} {w : World} {n : Nat} {H0 H : Hp} {vt : List Vr} {dd vc lcs : Addr} {lsts : Nat → Addr} {L : List Ent} {M : Nat → List Ent} {σ : Sg}

/-- one removal from a list of constraints -/
theorem rem_ent {e : Ent} {X : List Ent} {l : Addr} {Q : AV → Hp → Prop} {S : List Addr} (hl : H l = some (.list (X.map fun x => .ref x.z))) (hE : ∀ x ∈ X, EntAt H S x) (nd : (X.map (·.c)).Nodup) (he : e ∈ X) {z : Addr} (hz : H z = some (.tuple [.ref e.c, .ref e.vl]))
    (q : Q .none (upd H l (.list ((X.filter fun x => x.c != e.c).map fun x => .ref x.z)))) : CX prog w 3 (.other (.builtin "list.remove")) [.ref l, .ref z] Q H := by
  refine cx_remove ?_
  have hp : pairOf H (.ref z) = some (e.c, e.vl) ∧ isCons H (.ref z) := by
    obtain ⟨C, dx, h1, h2⟩ := (hE e he).con.inst
    have h3 : pairOf H (.ref z) = some (e.c, e.vl) := by
      unfold pairOf
      simp only [hz, h1]
    refine ⟨h3, ?_⟩
    simp only [isCons, h3, h1]
    exact h2
  simp only [removeP, hl, hp.1, erase_ents X e hE nd he]
  refine ⟨fun x hx => ?_, q⟩
  rcases List.mem_cons.mp hx with rfl | hx
  · exact hp.2
  · obtain ⟨y, hy, rfl⟩ := List.mem_map.mp hx
    exact (pair_ent (hE y hy)).2

theorem cx_336_one (Z : PreS vt lcs lsts) (P : PP vt dd vc lcs lsts L M σ H) {e : Ent} {k : Nat} (hk : k < vt.length) (hks : e.con.ks = [k]) (heL : e ∈ L) (heM : ∃ e' ∈ M k, e'.c = e.c ∧ e'.vl = e.vl) {Q : AV → Hp → Prop}
    (q : ∀ H', Chg (Sp vt lcs lsts) H H' → PP vt dd vc lcs lsts (L.filter fun x => x.c != e.c) (setM M k ((M k).filter fun x => x.c != e.c)) (σ.set k (cutS (fun x => !sat1 e.con x) (σ k))) H' → Q .none H') :
    CX prog w 4 (.ref 336) [.ref e.c, .ref e.vl, .ref dd, .ref lcs, .ref vc] Q H := by
  refine cx_fn (n := 3) (ok336 w) (locOf [("self", .ref e.c), ("variables", .ref e.vl), ("domains", .ref dd), ("constraints", .ref lcs), ("vconstraints", .ref vc)]) (fun vv e => ?_) ?_
  · obtain ⟨x, y, z, u, v, rfl, e1, e2, e3, e4, e5⟩ := args5 e
    exact ⟨_, bind_336 w x y z u v, by simp only [List.map, e1, e2, e3, e4, e5]⟩
  have l1 : locOf [("self", .ref e.c), ("variables", .ref e.vl), ("domains", .ref dd), ("constraints", .ref lcs), ("vconstraints", .ref vc)] "self" = some (.ref e.c) := rfl
  have l2 : locOf [("self", .ref e.c), ("variables", .ref e.vl), ("domains", .ref dd), ("constraints", .ref lcs), ("vconstraints", .ref vc)] "variables" = some (.ref e.vl) := rfl
  have l3 : locOf [("self", .ref e.c), ("variables", .ref e.vl), ("domains", .ref dd), ("constraints", .ref lcs), ("vconstraints", .ref vc)] "domains" = some (.ref dd) := rfl
  have l4 : locOf [("self", .ref e.c), ("variables", .ref e.vl), ("domains", .ref dd), ("constraints", .ref lcs), ("vconstraints", .ref vc)] "constraints" = some (.ref lcs) := rfl
  have l5 : locOf [("self", .ref e.c), ("variables", .ref e.vl), ("domains", .ref dd), ("constraints", .ref lcs), ("vconstraints", .ref vc)] "vconstraints" = some (.ref vc) := rfl
  generalize locOf [("self", .ref e.c), ("variables", .ref e.vl), ("domains", .ref dd), ("constraints", .ref lcs), ("vconstraints", .ref vc)] = m0 at l1 l2 l3 l4 l5 ⊢
  have E := P.ent e heL
  have hvl := E.con.lst
  rw [hks] at hvl
  simp only [List.map] at hvl
  obtain ⟨ed, hd⟩ := P.dom
  obtain ⟨v, hv⟩ : ∃ v, vt[k]? = some v := ⟨_, List.getElem?_eq_getElem hk⟩
  have V := P.doms k v hv
  obtain ⟨d1, d2, d3⟩ := dyn_mem hv
  rw [b336_eq, semSL.eq_2, semS]
  simp only [semX, semL, VT.of, l2, biP, e_len_list hvl, cmpP, eqP, truthP]
  have h1 : (((([AV.int (k : Int)] : List AV).length : Nat) : Int) == 1) = true := by rfl
  simp only [h1, if_true]
  rw [semSL.eq_2, semS]
  simp only [semX, VT.of, l2, e_idx_list hvl]
  refine ⟨by decide, ?_⟩
  have hg : ∀ Q H, getP [AV.int (k : Int)] 0 Q H = Q (.int (k : Int)) H := fun Q H => rfl
  rw [hg]
  rw [semSL.eq_2, semS]
  simp only [semX, VT.of, upL, if_true, show ("domains" : String) = "variable" ↔ False from by decide, if_false, l3, e_idx_dict hd, tab_look vt k v hv]
  rw [semSL.eq_2, semS]
  simp only [semX, VT.of]
  have t0 : ∀ y, y ≠ "variable" → y ≠ "domain" → (upL (upL m0 "variable" (.int (k : Int))) "domain" (.ref v.d)) y = m0 y := fun y n1 n2 => by simp [upL, n1, n2]
  have t1 : (upL (upL m0 "variable" (.int (k : Int))) "domain" (.ref v.d)) "variable" = some (.int (k : Int)) := by simp [upL]
  have t2 : (upL (upL m0 "variable" (.int (k : Int))) "domain" (.ref v.d)) "domain" = some (.ref v.d) := by simp [upL]
  show (semX (CX prog w 3) (upL (upL m0 "variable" (.int (k : Int))) "domain" (.ref v.d)) (.full (.loc "domain"))).v _ H
  generalize upL (upL m0 "variable" (.int (k : Int))) "domain" (.ref v.d) = m1 at t0 t1 t2 ⊢
  have s1 := (t0 "self" (by decide) (by decide)).trans l1
  have s2 := (t0 "variables" (by decide) (by decide)).trans l2
  have s3 := (t0 "domains" (by decide) (by decide)).trans l3
  have s4 := (t0 "constraints" (by decide) (by decide)).trans l4
  have s5 := (t0 "vconstraints" (by decide) (by decide)).trans l5
  simp only [semX, VT.of, t2, e_full_dom V.dom, newP]
  intro z fz
  have c1 : Chg [] H (upd H z (.list ((σ k).vis.map .int))) := (Chg.refl [] H).new fz
  have hz : (upd H z (.list ((σ k).vis.map .int))) z = some (.list ((σ k).vis.map .int)) := upd_at
  have zd : z ≠ v.d := (fz.ne V.dom).symm
  generalize upd H z (.list ((σ k).vis.map .int)) = H1 at c1 hz ⊢
  have P1 := P.chg0 c1
  simp only [e_items_list hz]
  have O := P1.ok k hk
  refine loopRem (prog := prog) (w := w) (n := 3) (H0 := H1) (v := v) (B := (σ k).vis.length) (V0 := (σ k).vis) (P := fun x => !sat1 e.con x) m1 t2 hz zd (fun x m H2 vis R hx hm c2 D2 nd hB hxV q2 => ?_) (σ k).vis [] m1 H1 (fun _ _ => rfl) (Chg.refl _ _) (by simpa using P1.doms k v hv) (by simpa using O.1.1) (by simp) (fun _ h => h) fun m2 H2 e2 c2 D2 => ?_
  · -- the constraint's answer at one value
    have r1 := (hm "self" (by decide)).trans s1
    have r2 := (hm "variables" (by decide)).trans s2
    have r3 := (hm "domains" (by decide)).trans s3
    have r4 := (hm "variable" (by decide)).trans t1
    have cS : Chg (Sp vt lcs lsts) H1 H2 := c2.mono (by simp; exact sp_dyn d1)
    have E2 := (P1.ent e heL).chg cS
    obtain ⟨C, dx, hi1, hi2⟩ := E2.con.inst
    have DD : Doms H2 vt (σ.set k ⟨vis, (σ k).hid, (σ k).sts⟩) := P1.doms.one Z.ap hv (c2.mono (by simp)) D2
    obtain ⟨ed1, hd1⟩ := P1.dom
    have hd2 := cS _ _ hd1 P1.nd
    simp only [c336, semX, semL, VT.of, r1, r2, r3, r4, hx]
    intro a ep fa
    have c3 : Chg [] H2 (upd H2 a (.dict [((k : Int), .int x)] ep)) := (Chg.refl [] H2).new fa
    have ha : (upd H2 a (.dict [((k : Int), .int x)] ep)) a = some (.dict [((k : Int), .int x)] ep) := upd_at
    have na : a ∉ dynOf vt := fun h => DD.known a h fa.1
    generalize upd H2 a (.dict [((k : Int), .int x)] ep) = H3 at c3 ha ⊢
    refine ⟨.inr (by rw [c3 _ _ hi1 (by simp)]; trivial), ?_⟩
    have DD3 := DD.chg0 c3
    have look1 : ∀ (j : Int) u, look [((k : Int), AV.int x)] j = some u → ∃ i, u = .int i := fun j u e => by
      unfold look at e
      by_cases h : (k : Int) = j
      · simp [h] at e; exact ⟨x, e.symm⟩
      · simp [h] at e
    refine cx_up (n := 2) (cx_con (S := dynOf vt) (fb := false) (((E2.con.chg (c3.mono (by simp))).sub fun _ => sp_dyn)) ha (c3 _ _ hd2 (by simp)) na (fun h => P.nd (sp_dyn h)) Z.ap look1 (fun j hj => by rw [hks] at hj; simp at hj; omega) DD3 (fun i hi => ?_) (fun R H' _ r => r) fun H4 c4 D4 => ?_) (by omega)
    · unfold Sg.set
      by_cases h : i = k
      · subst h; rw [if_pos rfl]
        refine ⟨nd, ?_⟩
        have := O.1.2
        show (σ i).hid.length + vis.length < 100
        omega
      · rw [if_neg h]; exact (P1.ok i hi).1
    · obtain ⟨f1, f2⟩ := conR_false e.con [((k : Int), AV.int x)] (σ.set k ⟨vis, (σ k).hid, (σ k).sts⟩) (fun _ => ⟨[], [], []⟩)
      rw [f2] at D4
      have e5 : (conR e.con [((k : Int), AV.int x)] false (σ.set k ⟨vis, (σ k).hid, (σ k).sts⟩)).1 = sat1 e.con x := by
        rw [f1]; unfold sat1; rw [hks]; rfl
      rw [e5]
      simp only [truthP]
      exact q2 H4 (c3.trans (DD3.same D4 c4))
  · -- the constraint leaves its lists
    have P2 := P1.dom' Z hv c2 (p := fun x => !sat1 e.con x) (by simpa [cutS] using D2)
    have u : ∀ y, y ≠ "value" → m2 y = m1 y := e2
    simp only [semSL.eq_1]
    have u1 := (u "self" (by decide)).trans s1
    have u2 := (u "variables" (by decide)).trans s2
    have u4 := (u "constraints" (by decide)).trans s4
    have u5 := (u "vconstraints" (by decide)).trans s5
    have u6 := (u "variable" (by decide)).trans t1
    have c02 : Chg (Sp vt lcs lsts) H H2 := (c1.mono (by simp)).trans (c2.mono (by simp; exact sp_dyn d1))
    rw [semSL.eq_2, semS]
    simp only [semX, semL, VT.of, u1, u2, u4, e_meth_list P2.lc (by decide : "remove" ≠ "preProcess"), listMeth]
    refine ⟨by simp, fun z3 fz3 => ?_⟩
    have c3 : Chg [] H2 (upd H2 z3 (.tuple [.ref e.c, .ref e.vl])) := (Chg.refl [] H2).new fz3
    have hz3 : (upd H2 z3 (.tuple [.ref e.c, .ref e.vl])) z3 = some (.tuple [.ref e.c, .ref e.vl]) := upd_at
    generalize upd H2 z3 (.tuple [.ref e.c, .ref e.vl]) = H3 at c3 hz3 ⊢
    have P3 := P2.chg0 c3
    refine rem_ent P3.lc P3.ent P3.nodup heL hz3 ?_
    have P4 := P3.lcs' Z (fun x => x.c != e.c)
    have c4 : Chg (Sp vt lcs lsts) H3 (upd H3 lcs (.list ((L.filter fun x => x.c != e.c).map fun e => .ref e.z))) := (Chg.refl _ _).upd sp_lcs
    generalize upd H3 lcs (.list ((L.filter fun x => x.c != e.c).map fun e => .ref e.z)) = H4 at P4 c4 ⊢
    obtain ⟨ev, hv4⟩ := P4.vcd
    rw [semSL.eq_2, semS]
    simp only [semX, semL, VT.of, u1, u2, u5, u6, e_idx_dict hv4, look_range _ hk, e_meth_list (P4.lst k hk) (by decide : "remove" ≠ "preProcess"), listMeth]
    refine ⟨by simp, fun z5 fz5 => ?_⟩
    have c5 : Chg [] H4 (upd H4 z5 (.tuple [.ref e.c, .ref e.vl])) := (Chg.refl [] H4).new fz5
    have hz5 : (upd H4 z5 (.tuple [.ref e.c, .ref e.vl])) z5 = some (.tuple [.ref e.c, .ref e.vl]) := upd_at
    generalize upd H4 z5 (.tuple [.ref e.c, .ref e.vl]) = H5 at c5 hz5 ⊢
    have P5 := P4.chg0 c5
    obtain ⟨e', hm', hc', hl'⟩ := heM
    refine rem_ent (e := e') (P5.lst k hk) (P5.entM k hk) (P5.nodupM k hk) hm' (by rw [hc', hl']; exact hz5) ?_
    rw [hc']
    have P6 := P5.lst' Z (fun x => x.c != e.c) hk
    have c6 : Chg (Sp vt lcs lsts) H5 (upd H5 (lsts k) (.list (((M k).filter fun x => x.c != e.c).map fun e => .ref e.z))) := (Chg.refl _ _).upd (sp_lst hk)
    simp only [semSL.eq_1, retOf]
    exact q _ ((((c02.trans (c3.mono (by simp))).trans c4).trans (c5.mono (by simp))).trans c6) P6
end
end Csp

namespace Csp
open PySem PySem.W PySem.Calls PyProof.Rows PySem.SeqAt Builtin Builtin.ObjectAttr

def pre1 (con : Con) (σ : Sg) : Sg := match con.ks with
  | [k] => σ.set k (cutS (fun x => !sat1 con x) (σ k))
  | _ => σ
def pre2 (con : Con) (σ : Sg) : Sg := match con with
  | .mx i ks => mapS (cutS fun x => decide (x > i)) ks σ
  | _ => σ
def preL (e : Ent) (L : List Ent) : List Ent := match e.con.ks with
  | [_] => L.filter fun x => x.c != e.c
  | _ => L
def preM (e : Ent) (M : Nat → List Ent) : Nat → List Ent := match e.con.ks with
  | [k] => setM M k ((M k).filter fun x => x.c != e.c)
  | _ => M

def c399 : E := .cmp .Gt (.loc "value") (.loc "maxsum")
def body399 : SL := .cons (.assign "domain" (.idx (.loc "domains") (.loc "variable"))) (.cons (.for1 ["value"] (.full (.loc "domain")) (bodyRem c399) .nil) .nil)
theorem b399_eq : b399 = .cons (.expr (.meth (.lit (.ref 347)) "preProcess" (.cons (.loc "self") (.cons (.loc "variables") (.cons (.loc "domains") (.cons (.loc "constraints") (.cons (.loc "vconstraints") .nil))))))) (.cons (.assign "multipliers" (.attr (.loc "self") "_multipliers")) (.cons (.assign "maxsum" (.attr (.loc "self") "_maxsum"))
    (.cons (.ife (.loc "multipliers") (.cons .bad .nil) (.cons (.for1 ["variable"] (.loc "variables") body399 .nil) .nil)) .nil))) := rfl

section
variable {prog : Program} {w : World} {n : Nat} {H0 H : Hp} {vt : List Vr} {dd vc lcs : Addr} {lsts : Nat → Addr} {L : List Ent} {M : Nat → List Ent} {σ : Sg}

theorem cx_336P (Z : PreS vt lcs lsts) (P : PP vt dd vc lcs lsts L M σ H) {e : Ent} (hk : ∀ k ∈ e.con.ks, k < vt.length) (heL : e ∈ L) (heM : ∀ k, e.con.ks = [k] → ∃ e' ∈ M k, e'.c = e.c ∧ e'.vl = e.vl) {Q : AV → Hp → Prop}
    (q : ∀ H', Chg (Sp vt lcs lsts) H H' → PP vt dd vc lcs lsts (preL e L) (preM e M) (pre1 e.con σ) H' → Q .none H') :
    CX prog w 4 (.ref 336) [.ref e.c, .ref e.vl, .ref dd, .ref lcs, .ref vc] Q H := by
  have E := P.ent e heL
  match hks : e.con.ks with
  | [k] =>
    refine cx_336_one Z P (hk k (by rw [hks]; simp)) hks heL (heM k hks) ?_
    simp only [preL, preM, pre1, hks] at q
    exact q
  | [] =>
    refine cx_up (n := 1) (cx_336_skip (l := 0) (d := 0) (v := .none) E.con.lst (by rw [hks]; simp) (q H (Chg.refl _ _) ?_)) (by omega)
    simp only [preL, preM, pre1, hks]
    exact P
  | a :: b :: r =>
    refine cx_up (n := 1) (cx_336_skip (l := 0) (d := 0) (v := .none) E.con.lst (by rw [hks]; simp) (q H (Chg.refl _ _) ?_)) (by omega)
    simp only [preL, preM, pre1, hks]
    exact P

theorem loop399 (Z : PreS vt lcs lsts) {i : Int} {src : AV} {Q : Fl → Loc → Hp → Prop} (hsrc : ∀ H', Chg (dynOf vt) H0 H' → sameSrc H0 H' src) :
    ∀ (ks : List Nat) (m : Loc) (H : Hp) (σ : Sg), (∀ k ∈ ks, k < vt.length) → m "domains" = some (.ref dd) → m "maxsum" = some (.int i) → Chg (dynOf vt) H0 H → PP vt dd vc lcs lsts L M σ H →
      (∀ m' H', Chg (dynOf vt) H0 H' → PP vt dd vc lcs lsts L M (mapS (cutS fun x => decide (x > i)) ks σ) H' → Q .next m' H') →
      forL (fun H' => sameSrc H0 H' src) (fun y Q' m' H' => bindT ["variable"] y (fun m'' => semSL (CX prog w n) body399 Q' m'') m' H') (semSL (CX prog w n) .nil) Q (ks.map fun (k : Nat) => AV.int (k : Int)) m H := by
  intro ks
  induction ks with
  | nil =>
    intro m H σ hk t1 t2 c P q
    exact ⟨hsrc H c, q m H c P⟩
  | cons k r ih =>
    intro m H σ hk t1 t2 c P q
    have lk := hk k (by simp)
    obtain ⟨v, hv⟩ : ∃ v, vt[k]? = some v := ⟨_, List.getElem?_eq_getElem lk⟩
    have V := P.doms k v hv
    obtain ⟨d1, d2, d3⟩ := dyn_mem hv
    obtain ⟨ed, hd⟩ := P.dom
    rw [List.map_cons, forL]
    refine ⟨hsrc H c, ?_⟩
    simp only [bindT, body399]
    rw [semSL.eq_2, semS]
    simp only [semX, VT.of, upL, if_true, show ("domains" : String) = "variable" ↔ False from by decide, if_false, t1, e_idx_dict hd, tab_look vt k v hv]
    have w0 : ∀ y, y ≠ "variable" → y ≠ "domain" → (upL (upL m "variable" (.int (k : Int))) "domain" (.ref v.d)) y = m y := fun y n1 n2 => by simp [upL, n1, n2]
    have w2 : (upL (upL m "variable" (.int (k : Int))) "domain" (.ref v.d)) "domain" = some (.ref v.d) := by simp [upL]
    show semSL (CX prog w n) (.cons (.for1 ["value"] (.full (.loc "domain")) (bodyRem c399) .nil) .nil) _ (upL (upL m "variable" (.int (k : Int))) "domain" (.ref v.d)) H
    generalize upL (upL m "variable" (.int (k : Int))) "domain" (.ref v.d) = m1 at w0 w2 ⊢
    rw [semSL.eq_2, semS]
    simp only [semX, VT.of, w2, e_full_dom V.dom, newP]
    intro z fz
    have c1 : Chg [] H (upd H z (.list ((σ k).vis.map .int))) := (Chg.refl [] H).new fz
    have hz : (upd H z (.list ((σ k).vis.map .int))) z = some (.list ((σ k).vis.map .int)) := upd_at
    have zd : z ≠ v.d := (fz.ne V.dom).symm
    generalize upd H z (.list ((σ k).vis.map .int)) = H1 at c1 hz ⊢
    have P1 := P.chg0 c1
    simp only [e_items_list hz]
    have O := P1.ok k lk
    refine loopRem (prog := prog) (w := w) (n := n) (H0 := H1) (v := v) (B := (σ k).vis.length) (V0 := (σ k).vis) (P := fun x => decide (x > i)) m1 w2 hz zd (fun x m H2 vis R hx hm c2 D2 nd hB hxV q2 => ?_) (σ k).vis [] m1 H1 (fun _ _ => rfl) (Chg.refl _ _) (by simpa using P1.doms k v hv) (by simpa using O.1.1) (by simp) (fun _ h => h) fun m2 H2 e2 c2 D2 => ?_
    · have r1 := ((hm "maxsum" (by decide)).trans (w0 _ (by decide) (by decide))).trans t2
      simp only [c399, semX, VT.of, r1, hx, cmpP, truthP]
      exact q2 H2 (Chg.refl _ _)
    · have P2 := P1.dom' Z hv c2 (p := fun x => decide (x > i)) (by simpa [cutS] using D2)
      simp only [semSL.eq_1]
      refine ih m2 H2 _ (fun j hj => hk j (by simp [hj])) ?_ ?_ ((c.trans (c1.mono (by simp))).trans (c2.mono (by simp; exact d1))) P2 q
      · exact ((e2 _ (by decide)).trans (w0 _ (by decide) (by decide))).trans t1
      · exact ((e2 _ (by decide)).trans (w0 _ (by decide) (by decide))).trans t2

theorem cx_399P (Z : PreS vt lcs lsts) (P : PP vt dd vc lcs lsts L M σ H) {e : Ent} {i : Int} {ks : List Nat} (hcon : e.con = .mx i ks) (hk : ∀ k ∈ e.con.ks, k < vt.length) (heL : e ∈ L) (heM : ∀ k, e.con.ks = [k] → ∃ e' ∈ M k, e'.c = e.c ∧ e'.vl = e.vl) {Q : AV → Hp → Prop}
    (q : ∀ H', Chg (Sp vt lcs lsts) H H' → PP vt dd vc lcs lsts (preL e L) (preM e M) (pre2 e.con (pre1 e.con σ)) H' → Q .none H') :
    CX prog w 5 (.ref 399) [.ref e.c, .ref e.vl, .ref dd, .ref lcs, .ref vc] Q H := by
  refine cx_fn (n := 4) (ok399 w) (locOf [("self", .ref e.c), ("variables", .ref e.vl), ("domains", .ref dd), ("constraints", .ref lcs), ("vconstraints", .ref vc)]) (fun vv e => ?_) ?_
  · obtain ⟨x, y, z, u, v, rfl, e1, e2, e3, e4, e5⟩ := args5 e
    exact ⟨_, bind_399 w x y z u v, by simp only [List.map, e1, e2, e3, e4, e5]⟩
  have l1 : locOf [("self", .ref e.c), ("variables", .ref e.vl), ("domains", .ref dd), ("constraints", .ref lcs), ("vconstraints", .ref vc)] "self" = some (.ref e.c) := rfl
  have l2 : locOf [("self", .ref e.c), ("variables", .ref e.vl), ("domains", .ref dd), ("constraints", .ref lcs), ("vconstraints", .ref vc)] "variables" = some (.ref e.vl) := rfl
  have l3 : locOf [("self", .ref e.c), ("variables", .ref e.vl), ("domains", .ref dd), ("constraints", .ref lcs), ("vconstraints", .ref vc)] "domains" = some (.ref dd) := rfl
  have l4 : locOf [("self", .ref e.c), ("variables", .ref e.vl), ("domains", .ref dd), ("constraints", .ref lcs), ("vconstraints", .ref vc)] "constraints" = some (.ref lcs) := rfl
  have l5 : locOf [("self", .ref e.c), ("variables", .ref e.vl), ("domains", .ref dd), ("constraints", .ref lcs), ("vconstraints", .ref vc)] "vconstraints" = some (.ref vc) := rfl
  generalize locOf [("self", .ref e.c), ("variables", .ref e.vl), ("domains", .ref dd), ("constraints", .ref lcs), ("vconstraints", .ref vc)] = m0 at l1 l2 l3 l4 l5 ⊢
  have E := P.ent e heL
  have hb : methOf H (.ref 347) "preProcess" = some (.fn 336) := by simp [methOf]
  rw [b399_eq, semSL.eq_2, semS]
  simp only [semX, semL, VT.of, hb, l1, l2, l3, l4, l5]
  refine cx_336P Z P hk heL heM fun H1 c1 P1 => ?_
  have E1 := E.chg c1
  have C1 : ConAt H1 (Sp vt lcs lsts) e.c e.vl (.mx i ks) := by rw [← hcon]; exact E1.con
  have o := C1.obj
  obtain ⟨cdx, h1, h2, h3⟩ := o
  rw [semSL.eq_2, semS]
  simp only [semX, VT.of, l1, e_attr_inst h1 h3, List.lookup]
  refine ⟨by decide, rfl, ?_⟩
  rw [semSL.eq_2, semS]
  simp only [semX, VT.of, upL, show ("self" : String) = "multipliers" ↔ False from by decide, if_false, l1, e_attr_inst h1 h3, List.lookup]
  refine ⟨by decide, rfl, ?_⟩
  have w1 : (upL (upL m0 "multipliers" .none) "maxsum" (.int i)) "multipliers" = some .none := by simp [upL]
  have w2 : (upL (upL m0 "multipliers" .none) "maxsum" (.int i)) "maxsum" = some (.int i) := by simp [upL]
  have w3 : (upL (upL m0 "multipliers" .none) "maxsum" (.int i)) "variables" = some (.ref e.vl) := by simp [upL, l2]
  have w4 : (upL (upL m0 "multipliers" .none) "maxsum" (.int i)) "domains" = some (.ref dd) := by simp [upL, l3]
  show semSL (CX prog w 4) _ _ (upL (upL m0 "multipliers" .none) "maxsum" (.int i)) H1
  generalize upL (upL m0 "multipliers" .none) "maxsum" (.int i) = m1 at w1 w2 w3 w4 ⊢
  rw [semSL.eq_2, semS]
  simp only [semX, VT.of, w1, truthP, Bool.false_eq_true, if_false]
  have hvl := E1.con.lst
  rw [semSL.eq_2, semS]
  simp only [semX, VT.of, w3, e_items_list hvl]
  have nl : e.vl ∉ dynOf vt := fun h => E1.con.nl (sp_dyn h)
  refine loop399 (prog := prog) (w := w) (n := 4) (H0 := H1) (src := .ref e.vl) (i := i) Z (fun H' c => by simp only [sameSrc, hvl, c _ _ hvl nl, and_self]) e.con.ks m1 H1 _ hk w4 w2 (Chg.refl _ _) P1 fun m2 H2 c2 P2 => ?_
  simp only [semSL.eq_1, retOf]
  refine q H2 (c1.trans (c2.mono fun _ => sp_dyn)) ?_
  have : pre2 e.con (pre1 e.con σ) = mapS (cutS fun x => decide (x > i)) e.con.ks (pre1 e.con σ) := by
    rw [hcon]; rfl
  rw [this]; exact P2

/-- preProcess of any constraint -/
theorem pre_call (Z : PreS vt lcs lsts) (P : PP vt dd vc lcs lsts L M σ H) {e : Ent} (hk : ∀ k ∈ e.con.ks, k < vt.length) (heL : e ∈ L) (heM : ∀ k, e.con.ks = [k] → ∃ e' ∈ M k, e'.c = e.c ∧ e'.vl = e.vl) {Q : AV → Hp → Prop}
    (q : ∀ H', Chg (Sp vt lcs lsts) H H' → PP vt dd vc lcs lsts (preL e L) (preM e M) (pre2 e.con (pre1 e.con σ)) H' → Q .none H') :
    ∃ f, methOf H (.ref e.c) "preProcess" = some (.py f) ∧ CX prog w 5 (.ref f) [.ref e.c, .ref e.vl, .ref dd, .ref lcs, .ref vc] Q H := by
  have E := P.ent e heL
  match hcon : e.con with
  | .mx i ks =>
    have C1 : ConAt H (Sp vt lcs lsts) e.c e.vl (.mx i ks) := by rw [← hcon]; exact E.con
    have o := C1.obj
    obtain ⟨cdx, h1, h2, h3⟩ := o
    exact ⟨399, by rw [e_meth_inst h1 h3 E.con.n347]; rfl, cx_399P Z P hcon hk heL heM q⟩
  | .mn i ks =>
    have C1 : ConAt H (Sp vt lcs lsts) e.c e.vl (.mn i ks) := by rw [← hcon]; exact E.con
    have o := C1.obj
    obtain ⟨cdx, h1, h2, h3⟩ := o
    exact ⟨336, by rw [e_meth_inst h1 h3 E.con.n347]; rfl, cx_up (cx_336P Z P hk heL heM (by rw [hcon] at q ⊢; exact q)) (by omega)⟩
  | .sm ks =>
    have C1 : ConAt H (Sp vt lcs lsts) e.c e.vl (.sm ks) := by rw [← hcon]; exact E.con
    have o := C1.obj
    obtain ⟨cdx, l, h1, h2, h3, _⟩ := o
    exact ⟨336, by rw [e_meth_inst h1 h3 E.con.n347]; rfl, cx_up (cx_336P Z P hk heL heM (by rw [hcon] at q ⊢; exact q)) (by omega)⟩
end
end Csp

namespace Csp
open PySem PySem.W PySem.Calls PyProof.Rows PySem.SeqAt Builtin Builtin.ObjectAttr

/-- a constraint as the problem keeps it -/
structure RC where
  z : Addr
  c : Addr
  ov : Option Addr
  con : Con
def Ent.tr (e : Ent) : Addr × Addr × Con := (e.c, e.vl, e.con)
def RC.tr (av : Addr) (r : RC) : Addr × Addr × Con := (r.c, r.ov.getD av, r.con)
def RC.vars (r : RC) : AV := match r.ov with
  | some vl => .ref vl
  | none => .none
/-- its tuple, and its list of variables, which is not empty -/
structure RawAt (H : Hp) (r : RC) : Prop where
  tup : H r.z = some (.tuple [.ref r.c, r.vars])
  lst : ∀ vl, r.ov = some vl → H vl = some (.list (r.con.ks.map fun (k : Nat) => AV.int (k : Int))) ∧ r.con.ks ≠ []

def body4 : SL := .cons (.ife (.not (.loc "variables")) (.cons (.assign "variables" (.loc "allvariables")) .nil) .nil) (.cons (.expr (.meth (.loc "constraints") "append" (.cons (.tup (.cons (.loc "constraint") (.cons (.loc "variables") .nil))) .nil))) .nil)
def body6 : SL := .cons (.assignIdx (.loc "vconstraints") (.loc "variable") (.list .nil)) .nil
def ent0 (H : Hp) (e : Ent) : Prop := H e.z = some (.tuple [.ref e.c, .ref e.vl])

section
variable {prog : Program} {w : World} {n : Nat} {H0 H : Hp}

theorem loop4 {av lcs : Addr} {src : AV} {Q : Fl → Loc → Hp → Prop} (hsrc : ∀ H', Chg [lcs] H0 H' → sameSrc H0 H' src) (m0 : Loc) (s1 : m0 "constraints" = some (.ref lcs)) (s2 : m0 "allvariables" = some (.ref av)) {ys0 : List AV} (hlc : H0 lcs = some (.list ys0)) :
    ∀ (rest : List RC) (done : List Ent) (m : Loc) (H : Hp), (∀ y, y ≠ "constraint" → y ≠ "variables" → m y = m0 y) → (∀ r ∈ rest, RawAt H0 r ∧ r.z ≠ lcs ∧ ∀ vl, r.ov = some vl → vl ≠ lcs) → Chg [lcs] H0 H → H lcs = some (.list (done.map fun e => .ref e.z)) → (∀ e ∈ done, ent0 H e ∧ H0 e.z = none) → done.length + rest.length < 100 →
      (∀ m' H' E, (∀ y, y ≠ "constraint" → y ≠ "variables" → m' y = m0 y) → Chg [lcs] H0 H' → H' lcs = some (.list ((done ++ E).map fun e => .ref e.z)) → (∀ e ∈ done ++ E, ent0 H' e ∧ H0 e.z = none) → E.map (·.tr) = rest.map (·.tr av) → Q .next m' H') →
      forL (fun H' => sameSrc H0 H' src) (fun y Q' m' H' => bindT ["constraint", "variables"] y (fun m'' => semSL (CX prog w n) body4 Q' m'') m' H') (semSL (CX prog w n) .nil) Q (rest.map fun r => AV.ref r.z) m H := by
  intro rest
  induction rest with
  | nil =>
    intro done m H k1 hr c hl hd hz q
    exact ⟨hsrc H c, by simp only [semSL.eq_1]; exact q m H [] k1 c (by simpa using hl) (by simpa using hd) rfl⟩
  | cons r rest ih =>
    intro done m H k1 hr c hl hd hz q
    obtain ⟨R, nz, nv⟩ := hr r (by simp)
    rw [List.map_cons, forL]
    refine ⟨hsrc H c, ?_⟩
    have ht := c _ _ R.tup (by simpa using nz)
    simp only [bindT, ht]
    refine ⟨rfl, ?_⟩
    simp only [List.zip, List.zipWith, List.foldl]
    generalize hm : upL (upL m "constraint" (.ref r.c)) "variables" r.vars = m1
    have t1 : m1 "constraint" = some (.ref r.c) := by rw [← hm]; simp [upL]
    have t2 : m1 "variables" = some r.vars := by rw [← hm]; simp [upL]
    have t0 : ∀ y, y ≠ "constraint" → y ≠ "variables" → m1 y = m0 y := fun y n1 n2 => by rw [← hm, ← k1 y n1 n2]; simp [upL, n1, n2]
    -- the entry that is appended
    have fin : ∀ (m2 : Loc), m2 "constraint" = some (.ref r.c) → m2 "variables" = some (.ref (r.ov.getD av)) → (∀ y, y ≠ "constraint" → y ≠ "variables" → m2 y = m0 y) →
        semSL (CX prog w n) (.cons (.expr (.meth (.loc "constraints") "append" (.cons (.tup (.cons (.loc "constraint") (.cons (.loc "variables") .nil))) .nil))) .nil) (fun fl m' H' => match fl with
          | .next | .cont => forL (fun H' => sameSrc H0 H' src) (fun y Q' m' H' => bindT ["constraint", "variables"] y (fun m'' => semSL (CX prog w n) body4 Q' m'') m' H') (semSL (CX prog w n) .nil) Q (rest.map fun r => AV.ref r.z) m' H'
          | .brk => Q .next m' H'
          | .ret v => Q (.ret v) m' H') m2 H := by
      intro m2 u1 u2 u0
      have u3 := (u0 "constraints" (by decide) (by decide)).trans s1
      rw [semSL.eq_2, semS]
      simp only [semX, semL, VT.of, u1, u2, u3, e_meth_list hl (by decide : "append" ≠ "preProcess"), listMeth]
      refine ⟨by simp, fun z fz => ?_⟩
      have c1 : Chg [] H (upd H z (.tuple [.ref r.c, .ref (r.ov.getD av)])) := (Chg.refl [] H).new fz
      have hz1 : (upd H z (.tuple [.ref r.c, .ref (r.ov.getD av)])) z = some (.tuple [.ref r.c, .ref (r.ov.getD av)]) := upd_at
      generalize upd H z (.tuple [.ref r.c, .ref (r.ov.getD av)]) = H1 at c1 hz1 ⊢
      have hl1 := c1 _ _ hl (by simp)
      have nzl : z ≠ lcs := fun e => by rw [e] at fz; rw [fz.1] at hl; cases hl
      have hz0 : H0 z = none := (fz.backS c (by simpa using nzl)).1
      dsimp only
      rw [e_app hl1]
      refine ⟨by simp; simp at hz; unfold big; omega, ?_⟩
      simp only [semSL.eq_1]
      have c2 : Chg [lcs] H1 (upd H1 lcs (.list ((done.map fun e => .ref e.z) ++ [.ref z]))) := (Chg.refl _ _).upd (by simp)
      refine ih (done ++ [⟨z, r.c, r.ov.getD av, r.con⟩]) m2 _ u0 (fun r' h' => hr r' (by simp [h'])) ((c.trans (c1.mono (by simp))).trans c2) (by rw [upd_at]; simp) (fun e he => ?_) (by simp at hz ⊢; omega) fun m' H' E a b d f g => q m' H' (⟨z, r.c, r.ov.getD av, r.con⟩ :: E) a b (by simpa using d) (fun e he => f e (by simpa using he)) (by rw [List.map_cons, List.map_cons, g]; rfl)
      rcases List.mem_append.mp he with he | he
      · obtain ⟨h1, h2⟩ := hd e he
        have ne : e.z ≠ lcs := fun e2 => by rw [e2, hlc] at h2; cases h2
        exact ⟨c2 _ _ (c1 _ _ h1 (by simp)) (by simpa using ne), h2⟩
      · obtain rfl := List.mem_singleton.mp he
        exact ⟨c2 _ _ hz1 (by simpa using nzl), hz0⟩
    rw [body4, semSL.eq_2, semS]
    simp only [semX, VT.of, t2]
    cases ho : r.ov with
    | none =>
      have hv : r.vars = .none := by simp [RC.vars, ho]
      rw [hv]
      simp only [truthP, Bool.not_false, if_true]
      rw [semSL.eq_2, semS]
      have s3 := (t0 "allvariables" (by decide) (by decide)).trans s2
      simp only [semX, VT.of, s3, semSL.eq_1]
      refine fin _ (by simp [upL, t1]) (by simp [upL, ho]) fun y n1 n2 => by simp [upL, n2, t0 y n1 n2]
    | some vl =>
      have hv : r.vars = .ref vl := by simp [RC.vars, ho]
      obtain ⟨h1, h2⟩ := R.lst vl ho
      have h3 := c _ _ h1 (by simpa using nv vl ho)
      rw [hv, e_truth_list h3]
      have : (r.con.ks.map fun (k : Nat) => AV.int (k : Int)).isEmpty = false := by
        cases hk : r.con.ks with
        | nil => exact absurd hk h2
        | cons _ _ => rfl
      simp only [this, Bool.not_false, Bool.not_true, Bool.false_eq_true, if_false, semSL.eq_1]
      exact fin m1 t1 (by rw [t2, hv, ho]; rfl) t0

/-- variables' lists, by their addresses -/
def atL (ls : List Addr) (k : Nat) : Addr := ls.getD k 0
def vdict (ls : List Addr) : As := (List.range ls.length).map fun (k : Nat) => ((k : Int), AV.ref (atL ls k))
theorem vdict_snoc (ls : List Addr) (a : Addr) : vdict (ls ++ [a]) = vdict ls ++ [((ls.length : Int), .ref a)] := by
  unfold vdict
  rw [List.length_append, List.length_singleton, List.range_succ, List.map_append]
  congr 1
  · refine List.map_congr_left fun k hk => ?_
    have : k < ls.length := by simpa using hk
    simp [atL, List.getD, List.getElem?_append_left this]
  · simp [atL, List.getD]
theorem vdict_no (ls : List Addr) : look (vdict ls) (ls.length : Int) = none := by
  unfold look
  have : (vdict ls).find? (fun p => decide (p.1 = (ls.length : Int))) = none := by
    rw [List.find?_eq_none]
    intro p hp
    unfold vdict at hp
    obtain ⟨k, hk, rfl⟩ := List.mem_map.mp hp
    have : k < ls.length := by simpa using hk
    simp; omega
  rw [this]; rfl

theorem loop6 {vc : Addr} {src : AV} {tot : Nat} {Q : Fl → Loc → Hp → Prop} (hsrc : ∀ H', Chg [vc] H0 H' → sameSrc H0 H' src) (m0 : Loc) (s1 : m0 "vconstraints" = some (.ref vc)) (htot : tot ≤ 6) {es0 ep0} (hvc : H0 vc = some (.dict es0 ep0)) :
    ∀ (r : Nat) (ls : List Addr) (m : Loc) (H : Hp), ls.length + r = tot → (∀ y, y ≠ "variable" → m y = m0 y) → Chg [vc] H0 H → (∃ ep, H vc = some (.dict (vdict ls) ep)) → (∀ a ∈ ls, H a = some (.list []) ∧ H0 a = none) → ls.Nodup →
      (∀ m' H' ls, ls.length = tot → (∀ y, y ≠ "variable" → m' y = m0 y) → Chg [vc] H0 H' → (∃ ep, H' vc = some (.dict (vdict ls) ep)) → (∀ a ∈ ls, H' a = some (.list []) ∧ H0 a = none) → ls.Nodup → Q .next m' H') →
      forL (fun H' => sameSrc H0 H' src) (fun y Q' m' H' => bindT ["variable"] y (fun m'' => semSL (CX prog w n) body6 Q' m'') m' H') (semSL (CX prog w n) .nil) Q ((List.range' ls.length r).map fun (k : Nat) => AV.int (k : Int)) m H := by
  intro r
  induction r with
  | zero =>
    intro ls m H e k1 c hd hl nd q
    exact ⟨hsrc H c, by simp only [semSL.eq_1]; exact q m H ls (by omega) k1 c hd hl nd⟩
  | succ r ih =>
    intro ls m H e k1 c hd hl nd q
    rw [List.range'_succ, List.map_cons, forL]
    refine ⟨hsrc H c, ?_⟩
    obtain ⟨ep, hd⟩ := hd
    have t1 : (upL m "variable" (.int (ls.length : Int))) "vconstraints" = some (.ref vc) := by simp [upL, k1, s1]
    have t2 : (upL m "variable" (.int (ls.length : Int))) "variable" = some (.int (ls.length : Int)) := by simp [upL]
    have t0 : ∀ y, y ≠ "variable" → (upL m "variable" (.int (ls.length : Int))) y = m0 y := fun y ny => by simp [upL, ny, k1 y ny]
    have key : ∀ K : Fl → Loc → Hp → Prop, (∀ a H2 ep2, H a = none → a ≠ vc → Chg [vc] H H2 → H2 a = some (.list []) → H2 vc = some (.dict (vdict (ls ++ [a])) ep2) → H0 a = none → K .next (upL m "variable" (.int (ls.length : Int))) H2) → bindT ["variable"] (.int (ls.length : Int)) (fun m'' => semSL (CX prog w n) body6 K m'') m H := by
      intro K hK
      simp only [bindT, body6]
      rw [semSL.eq_2, semS]
      simp only [semX, semL, VT.of, t1, t2]
      refine ⟨by simp, fun a fa => ?_⟩
      have c1 : Chg [] H (upd H a (.list [])) := (Chg.refl [] H).new fa
      have ha1 : (upd H a (.list [])) a = some (.list []) := upd_at
      generalize upd H a (.list []) = H1 at c1 ha1 ⊢
      have hd1 := c1 _ _ hd (by simp)
      have nav : a ≠ vc := fun e => by rw [e] at fa; rw [fa.1] at hd; cases hd
      have ha0 : H0 a = none := (fa.backS c (by simpa using nav)).1
      dsimp only
      rw [e_setItem hd1]
      refine ⟨by unfold vdict; simp; unfold big; omega, fun ep2 => ?_⟩
      rw [store_new (vdict_no ls)]
      have c2 : Chg [vc] H1 (upd H1 vc (.dict (vdict ls ++ [((ls.length : Int), .ref a)]) ep2)) := (Chg.refl _ _).upd (by simp)
      simp only [semSL.eq_1]
      exact hK a _ ep2 fa.1 nav ((c1.mono (by simp)).trans c2) (c2 _ _ ha1 (by simpa using nav)) (by rw [upd_at, vdict_snoc]) ha0
    refine key _ fun a H2 ep2 fa nav c2 ha2 h2 ha0 => ?_
    have ih' := ih (ls ++ [a]) _ H2 (by simp; omega) t0 (c.trans c2) ⟨ep2, h2⟩ (fun x hx => ?_) ?_ q
    · rw [List.length_append] at ih'; exact ih'
    · rcases List.mem_append.mp hx with hx | hx
      · obtain ⟨h3, h4⟩ := hl x hx
        have nx : x ≠ vc := fun e => by rw [e, hvc] at h4; cases h4
        exact ⟨c2 _ _ h3 (by simpa using nx), h4⟩
      · obtain rfl := List.mem_singleton.mp hx
        exact ⟨ha2, ha0⟩
    · rw [List.nodup_append]
      refine ⟨nd, by simp, fun x hx y hy e => ?_⟩
      obtain rfl := List.mem_singleton.mp hy
      subst e
      have := (hl x hx).1
      rw [fa] at this; cases this
end
end Csp

namespace Csp
open PySem PySem.W PySem.Calls PyProof.Rows PySem.SeqAt Builtin Builtin.ObjectAttr

def body7b : SL := .cons (.expr (.meth (.idx (.loc "vconstraints") (.loc "variable")) "append" (.cons (.tup (.cons (.loc "constraint") (.cons (.loc "variables") .nil))) .nil))) .nil
def body7 : SL := .cons (.for1 ["variable"] (.loc "variables") body7b .nil) .nil

section
variable {prog : Program} {w : World} {n : Nat} {H0 H : Hp} {vt : List Vr} {dd vc lcs : Addr} {lsts : Nat → Addr} {L : List Ent} {M : Nat → List Ent} {σ : Sg}

theorem PP.known (P : PP vt dd vc lcs lsts L M σ H) : ∀ a ∈ Sp vt lcs lsts, H a ≠ none := fun a ha => by
  rcases List.mem_append.mp ha with h | h
  · exact P.doms.known a h
  · rcases List.mem_cons.mp h with rfl | h
    · rw [P.lc]; simp
    · obtain ⟨k, hk, rfl⟩ := List.mem_map.mp h
      rw [P.lst k (by simpa using hk)]; simp

theorem PP.app (Z : PreS vt lcs lsts) (P : PP vt dd vc lcs lsts L M σ H) {e : Ent} (hE : EntAt H (Sp vt lcs lsts) e) {k : Nat} (hk : k < vt.length) (hn : e.c ∉ (M k).map (·.c)) : PP vt dd vc lcs lsts L (setM M k (M k ++ [e])) σ (upd H (lsts k) (.list ((M k ++ [e]).map fun e => .ref e.z))) := by
  have c : Chg (Sp vt lcs lsts) H (upd H (lsts k) (.list ((M k ++ [e]).map fun e => .ref e.z))) := (Chg.refl _ _).upd (sp_lst hk)
  refine ⟨?_, P.nd, ?_, P.nv, upd_old P.lc (Z.nk k hk).2, fun j hj => ?_, fun e he => (P.ent e he).chg c, fun j hj e' he => ?_, P.nodup, fun j hj => ?_, P.doms.other (Z.nk k hk).1 (by simp [P.lst k hk]), P.ok⟩
  · obtain ⟨e, h⟩ := P.dom; exact ⟨e, c _ _ h P.nd⟩
  · obtain ⟨e, h⟩ := P.vcd; exact ⟨e, c _ _ h P.nv⟩
  · unfold setM
    by_cases e : j = k
    · subst e; rw [if_pos rfl]; exact upd_at
    · rw [if_neg e]
      exact upd_old (P.lst j hj) (fun e2 => e (Z.inj j k hj hk e2))
  · unfold setM at he
    by_cases e2 : j = k
    · subst e2; rw [if_pos rfl] at he
      rcases List.mem_append.mp he with he | he
      · exact (P.entM j hj e' he).chg c
      · obtain rfl := List.mem_singleton.mp he
        exact hE.chg c
    · rw [if_neg e2] at he; exact (P.entM j hj e' he).chg c
  · unfold setM
    by_cases e2 : j = k
    · subst e2; rw [if_pos rfl, List.map_append, List.nodup_append]
      refine ⟨P.nodupM j hj, by simp, fun x hx y hy e3 => ?_⟩
      simp only [List.map_cons, List.map_nil, List.mem_singleton] at hy
      subst hy
      exact hn (e3 ▸ hx)
    · rw [if_neg e2]; exact P.nodupM j hj

theorem inner7 (Z : PreS vt lcs lsts) {e : Ent} {src : AV} {Q : Fl → Loc → Hp → Prop} (hsrc : ∀ H', Chg (Sp vt lcs lsts) H0 H' → sameSrc H0 H' src) (m0 : Loc) (s1 : m0 "vconstraints" = some (.ref vc)) (s2 : m0 "constraint" = some (.ref e.c)) (s3 : m0 "variables" = some (.ref e.vl)) :
    ∀ (rest : List Nat) (M : Nat → List Ent) (m : Loc) (H : Hp), (∀ y, y ≠ "variable" → m y = m0 y) → Chg (Sp vt lcs lsts) H0 H → PP vt dd vc lcs lsts L M σ H → e ∈ L → rest.Nodup → (∀ k ∈ rest, k < vt.length ∧ e.c ∉ (M k).map (·.c) ∧ (M k).length < 100) →
      (∀ m' H' M', (∀ y, y ≠ "variable" → m' y = m0 y) → Chg (Sp vt lcs lsts) H0 H' → PP vt dd vc lcs lsts L M' σ H' → (∀ k, k < vt.length → (M' k).map (·.tr) = (M k).map (·.tr) ++ if k ∈ rest then [e.tr] else []) → Q .next m' H') →
      forL (fun H' => sameSrc H0 H' src) (fun y Q' m' H' => bindT ["variable"] y (fun m'' => semSL (CX prog w n) body7b Q' m'') m' H') (semSL (CX prog w n) .nil) Q (rest.map fun (k : Nat) => AV.int (k : Int)) m H := by
  intro rest
  induction rest with
  | nil =>
    intro M m H k1 c P he nd hr q
    exact ⟨hsrc H c, by simp only [semSL.eq_1]; exact q m H M k1 c P (fun k _ => by simp)⟩
  | cons k rest ih =>
    intro M m H k1 c P he nd hr q
    rw [List.map_cons, forL]
    refine ⟨hsrc H c, ?_⟩
    obtain ⟨n1, n2⟩ := List.nodup_cons.mp nd
    obtain ⟨hk, hn, hlen⟩ := hr k (by simp)
    have t0 : ∀ y, y ≠ "variable" → (upL m "variable" (.int (k : Int))) y = m0 y := fun y ny => by simp [upL, ny, k1 y ny]
    have t2 : (upL m "variable" (.int (k : Int))) "variable" = some (.int (k : Int)) := by simp [upL]
    have key : ∀ K : Fl → Loc → Hp → Prop, (∀ z H2, Chg (Sp vt lcs lsts) H H2 → PP vt dd vc lcs lsts L (setM M k (M k ++ [⟨z, e.c, e.vl, e.con⟩])) σ H2 → K .next (upL m "variable" (.int (k : Int))) H2) → bindT ["variable"] (.int (k : Int)) (fun m'' => semSL (CX prog w n) body7b K m'') m H := by
      intro K hK
      obtain ⟨ev, hv⟩ := P.vcd
      have r1 := (t0 "vconstraints" (by decide)).trans s1
      have r2 := (t0 "constraint" (by decide)).trans s2
      have r3 := (t0 "variables" (by decide)).trans s3
      simp only [bindT, body7b]
      generalize upL m "variable" (.int (k : Int)) = m1 at r1 r2 r3 t2 hK ⊢
      rw [semSL.eq_2, semS]
      simp only [semX, semL, VT.of, r1, r2, r3, t2, e_idx_dict hv, look_range _ hk, e_meth_list (P.lst k hk) (by decide : "append" ≠ "preProcess"), listMeth]
      refine ⟨by simp, fun z fz => ?_⟩
      have c1 : Chg [] H (upd H z (.tuple [.ref e.c, .ref e.vl])) := (Chg.refl [] H).new fz
      have hz1 : (upd H z (.tuple [.ref e.c, .ref e.vl])) z = some (.tuple [.ref e.c, .ref e.vl]) := upd_at
      generalize upd H z (.tuple [.ref e.c, .ref e.vl]) = H1 at c1 hz1 ⊢
      have P1 := P.chg0 c1
      have nz : z ∉ Sp vt lcs lsts := fun h => P.known z h fz.1
      have E1 : EntAt H1 (Sp vt lcs lsts) ⟨z, e.c, e.vl, e.con⟩ := ⟨hz1, nz, (P1.ent e he).con⟩
      dsimp only
      rw [e_app (P1.lst k hk)]
      refine ⟨by simp; unfold big; omega, ?_⟩
      simp only [semSL.eq_1]
      have P2 := P1.app Z E1 hk hn
      have c2 : Chg (Sp vt lcs lsts) H1 (upd H1 (lsts k) (.list ((M k ++ [(⟨z, e.c, e.vl, e.con⟩ : Ent)]).map fun (e : Ent) => AV.ref e.z))) := (Chg.refl _ _).upd (sp_lst hk)
      have e1 : ((M k).map fun (e : Ent) => AV.ref e.z) ++ [.ref z] = (M k ++ [(⟨z, e.c, e.vl, e.con⟩ : Ent)]).map fun (e : Ent) => AV.ref e.z := by simp
      rw [e1]
      exact hK z _ ((c1.mono (by simp)).trans c2) P2
    refine key _ fun z H2 c2 P2 => ?_
    have sm : ∀ j, j ≠ k → setM M k (M k ++ [⟨z, e.c, e.vl, e.con⟩]) j = M j := fun j hj => by unfold setM; rw [if_neg hj]
    refine ih _ _ H2 t0 (c.trans c2) P2 he n2 (fun j hj => ?_) fun m' H' M' a b P' d => q m' H' M' a b P' fun j hj => ?_
    · have : j ≠ k := by rintro rfl; exact n1 hj
      rw [sm j this]
      exact hr j (by simp [hj])
    · rw [d j hj]
      by_cases h : j = k
      · subst h
        have : setM M j (M j ++ [⟨z, e.c, e.vl, e.con⟩]) j = M j ++ [⟨z, e.c, e.vl, e.con⟩] := by unfold setM; rw [if_pos rfl]
        rw [this, if_neg n1]
        simp [Ent.tr]
      · rw [sm j h]
        simp [h]

theorem loop7 (Z : PreS vt lcs lsts) {src : AV} {Q : Fl → Loc → Hp → Prop} (hsrc : ∀ H' M', Chg (Sp vt lcs lsts) H0 H' → PP vt dd vc lcs lsts L M' σ H' → sameSrc H0 H' src) (m0 : Loc) (s1 : m0 "vconstraints" = some (.ref vc)) (hL : ∀ e ∈ L, (∀ k ∈ e.con.ks, k < vt.length) ∧ e.con.ks.Nodup) (hlen : L.length < 100) :
    ∀ (rest dn : List Ent) (M : Nat → List Ent) (m : Loc) (H : Hp), dn ++ rest = L → (∀ y, y ≠ "constraint" → y ≠ "variables" → y ≠ "variable" → m y = m0 y) → Chg (Sp vt lcs lsts) H0 H → PP vt dd vc lcs lsts L M σ H → (∀ k, k < vt.length → (M k).map (·.tr) = (dn.filter fun e => decide (k ∈ e.con.ks)).map (·.tr)) →
      (∀ m' H' M', (∀ y, y ≠ "constraint" → y ≠ "variables" → y ≠ "variable" → m' y = m0 y) → Chg (Sp vt lcs lsts) H0 H' → PP vt dd vc lcs lsts L M' σ H' → (∀ k, k < vt.length → (M' k).map (·.tr) = (L.filter fun e => decide (k ∈ e.con.ks)).map (·.tr)) → Q .next m' H') →
      forL (fun H' => sameSrc H0 H' src) (fun y Q' m' H' => bindT ["constraint", "variables"] y (fun m'' => semSL (CX prog w n) body7 Q' m'') m' H') (semSL (CX prog w n) .nil) Q (rest.map fun e => AV.ref e.z) m H := by
  intro rest
  induction rest with
  | nil =>
    intro dn M m H hdn k1 c P hM q
    rw [List.append_nil] at hdn
    subst hdn
    exact ⟨hsrc H M c P, by simp only [semSL.eq_1]; exact q m H M k1 c P hM⟩
  | cons e rest ih =>
    intro dn M m H hdn k1 c P hM q
    rw [List.map_cons, forL]
    refine ⟨hsrc H M c P, ?_⟩
    have he : e ∈ L := by rw [← hdn]; simp
    obtain ⟨h1, h2⟩ := hL e he
    have E := P.ent e he
    have tc : ∀ k, k < vt.length → (M k).map (·.c) = (dn.filter fun e => decide (k ∈ e.con.ks)).map (·.c) := fun k hk => by
      have := congrArg (List.map fun t : Addr × Addr × Con => t.1) (hM k hk)
      simpa [List.map_map, Function.comp_def, Ent.tr] using this
    have tl : ∀ k, k < vt.length → (M k).length < 100 := fun k hk => by
      have := congrArg List.length (hM k hk)
      simp only [List.length_map] at this
      have h3 := List.length_filter_le (fun e : Ent => decide (k ∈ e.con.ks)) dn
      have h4 : dn.length ≤ L.length := by rw [← hdn]; simp
      omega
    have key : ∀ K : Fl → Loc → Hp → Prop, (∀ m2 H2 M2, (∀ y, y ≠ "constraint" → y ≠ "variables" → y ≠ "variable" → m2 y = m0 y) → Chg (Sp vt lcs lsts) H H2 → PP vt dd vc lcs lsts L M2 σ H2 → (∀ k, k < vt.length → (M2 k).map (·.tr) = (M k).map (·.tr) ++ if k ∈ e.con.ks then [e.tr] else []) → K .next m2 H2) →
        bindT ["constraint", "variables"] (.ref e.z) (fun m'' => semSL (CX prog w n) body7 K m'') m H := by
      intro K hK
      simp only [bindT, E.tup]
      refine ⟨rfl, ?_⟩
      simp only [List.zip, List.zipWith, List.foldl]
      have u0 : ∀ y, y ≠ "constraint" → y ≠ "variables" → y ≠ "variable" → (upL (upL m "constraint" (.ref e.c)) "variables" (.ref e.vl)) y = m0 y := fun y n1 n2 n3 => by rw [← k1 y n1 n2 n3]; simp [upL, n1, n2]
      have u1 : (upL (upL m "constraint" (.ref e.c)) "variables" (.ref e.vl)) "constraint" = some (.ref e.c) := by simp [upL]
      have u2 : (upL (upL m "constraint" (.ref e.c)) "variables" (.ref e.vl)) "variables" = some (.ref e.vl) := by simp [upL]
      generalize upL (upL m "constraint" (.ref e.c)) "variables" (.ref e.vl) = m1 at u0 u1 u2 ⊢
      have u3 := (u0 "vconstraints" (by decide) (by decide) (by decide)).trans s1
      rw [body7, semSL.eq_2, semS]
      have hvl := E.con.lst
      simp only [semX, VT.of, u2, e_items_list hvl]
      refine inner7 (prog := prog) (w := w) (n := n) (H0 := H) (e := e) (src := .ref e.vl) Z (fun H' c => by simp only [sameSrc, hvl, c _ _ hvl E.con.nl, and_self]) m1 u3 u1 u2 e.con.ks M m1 H (fun _ _ => rfl) (Chg.refl _ _) P he h2 (fun k hk => ⟨h1 k hk, ?_, tl k (h1 k hk)⟩) fun m' H' M' a b P' d => ?_
      · rw [tc k (h1 k hk)]
        intro hm
        obtain ⟨x, hx, hxc⟩ := List.mem_map.mp hm
        have nd := P.nodup
        rw [← hdn, List.map_append, List.nodup_append] at nd
        exact nd.2.2 x.c (List.mem_map.mpr ⟨x, (List.mem_filter.mp hx).1, rfl⟩) e.c (by simp) hxc
      · simp only [semSL.eq_1]
        exact hK m' H' M' (fun y n1 n2 n3 => (a y n3).trans (u0 y n1 n2 n3)) b P' d
    refine key _ fun m2 H2 M2 k2 c2 P2 d2 => ?_
    refine ih (dn ++ [e]) M2 m2 H2 (by rw [← hdn]; simp) k2 (c.trans c2) P2 (fun k hk => ?_) q
    rw [d2 k hk, hM k hk, List.filter_append, List.map_append]
    by_cases h : k ∈ e.con.ks <;> simp [h]
end
end Csp

namespace Csp
open PySem PySem.W PySem.Calls PyProof.Rows PySem.SeqAt Builtin Builtin.ObjectAttr

def body8 : SL := .cons (.expr (.meth (.loc "constraint") "preProcess" (.cons (.loc "variables") (.cons (.loc "domains") (.cons (.loc "constraints") (.cons (.loc "vconstraints") .nil)))))) .nil
def body9 : SL := .cons (.expr (.meth (.loc "domain") "resetState" .nil)) (.cons (.ife (.not (.loc "domain")) (.cons (.ret (.tup (.cons (.lit .none) (.cons (.lit .none) (.cons (.lit .none) .nil))))) .nil) .nil) .nil)

/-! what the preprocessing leaves, in plain words -/
def preAll (es : List Ent) (σ : Sg) : Sg := es.foldl (fun σ e => pre2 e.con (pre1 e.con σ)) σ
def preMs (es : List Ent) (M : Nat → List Ent) : Nat → List Ent := es.foldl (fun M e => preM e M) M
def okAt (con : Con) (k : Nat) (x : Int) : Prop := (con.ks = [k] → sat1 con x = true) ∧ ∀ i ks, con = .mx i ks → k ∈ ks → x ≤ i
theorem pre_one (con : Con) (nd : con.ks.Nodup) (σ : Sg) (k : Nat) : (∀ x, x ∈ (pre2 con (pre1 con σ) k).vis ↔ x ∈ (σ k).vis ∧ okAt con k x) ∧ (pre2 con (pre1 con σ) k).hid = (σ k).hid ∧ (pre2 con (pre1 con σ) k).sts = (σ k).sts := by
  have h1 : (∀ x, x ∈ (pre1 con σ k).vis ↔ x ∈ (σ k).vis ∧ (con.ks = [k] → sat1 con x = true)) ∧ (pre1 con σ k).hid = (σ k).hid ∧ (pre1 con σ k).sts = (σ k).sts := by
    unfold pre1
    match hks : con.ks with
    | [j] =>
      simp only [Sg.set]
      by_cases h : k = j
      · subst h
        simp [cutS]
      · rw [if_neg h]
        have : ¬ j = k := fun e => h e.symm
        simp [this]
    | [] => simp
    | a :: b :: r => simp
  have h2 : ∀ τ : Sg, (∀ x, x ∈ (pre2 con τ k).vis ↔ x ∈ (τ k).vis ∧ ∀ i ks, con = .mx i ks → k ∈ ks → x ≤ i) ∧ (pre2 con τ k).hid = (τ k).hid ∧ (pre2 con τ k).sts = (τ k).sts := by
    intro τ
    cases con with
    | mx i ks =>
      have nd' : ks.Nodup := nd
      simp only [pre2]
      by_cases h : k ∈ ks
      · rw [mapS_in _ _ _ _ nd' h]
        refine ⟨fun x => ?_, rfl, rfl⟩
        simp only [cutS, List.mem_filter]
        constructor
        · rintro ⟨a, b⟩
          refine ⟨a, fun i' ks' e _ => ?_⟩
          cases e
          simpa using b
        · rintro ⟨a, b⟩
          refine ⟨a, ?_⟩
          have := b i ks rfl h
          simpa using this
      · rw [mapS_out _ _ _ _ h]
        refine ⟨fun x => ⟨fun a => ⟨a, fun i' ks' e h' => ?_⟩, fun a => a.1⟩, rfl, rfl⟩
        cases e
        exact absurd h' h
    | mn i ks => exact ⟨fun x => ⟨fun a => ⟨a, fun _ _ e => by cases e⟩, fun a => a.1⟩, rfl, rfl⟩
    | sm ks => exact ⟨fun x => ⟨fun a => ⟨a, fun _ _ e => by cases e⟩, fun a => a.1⟩, rfl, rfl⟩
  obtain ⟨a1, a2, a3⟩ := h1
  obtain ⟨b1, b2, b3⟩ := h2 (pre1 con σ)
  refine ⟨fun x => ?_, b2.trans a2, b3.trans a3⟩
  rw [b1, a1]
  unfold okAt
  constructor
  · rintro ⟨⟨p, q⟩, r⟩; exact ⟨p, q, r⟩
  · rintro ⟨p, q, r⟩; exact ⟨⟨p, q⟩, r⟩
theorem pre_all : ∀ (es : List Ent) (σ : Sg) (k : Nat), (∀ e ∈ es, e.con.ks.Nodup) → (∀ x, x ∈ (preAll es σ k).vis ↔ x ∈ (σ k).vis ∧ ∀ e ∈ es, okAt e.con k x) ∧ (preAll es σ k).hid = (σ k).hid ∧ (preAll es σ k).sts = (σ k).sts
  | [], σ, k, _ => ⟨fun x => by simp [preAll], rfl, rfl⟩
  | e :: r, σ, k, h => by
    obtain ⟨a1, a2, a3⟩ := pre_one e.con (h e (by simp)) σ k
    obtain ⟨b1, b2, b3⟩ := pre_all r (pre2 e.con (pre1 e.con σ)) k fun x hx => h x (by simp [hx])
    refine ⟨fun x => ?_, b2.trans a2, b3.trans a3⟩
    show x ∈ (preAll r (pre2 e.con (pre1 e.con σ)) k).vis ↔ _
    rw [b1, a1]
    simp only [List.mem_cons, forall_eq_or_imp, and_assoc]
theorem preM_mem (e : Ent) (M : Nat → List Ent) (k : Nat) (x : Ent) : x ∈ preM e M k ↔ x ∈ M k ∧ (e.con.ks = [k] → x.c ≠ e.c) := by
  unfold preM
  match hks : e.con.ks with
  | [j] =>
    simp only [setM]
    by_cases h : k = j
    · subst h
      simp
    · rw [if_neg h]
      have : ¬ j = k := fun e => h e.symm
      simp [this]
  | [] => simp
  | a :: b :: r => simp
theorem preMs_mem : ∀ (es : List Ent) (M : Nat → List Ent) (k : Nat) (x : Ent), x ∈ preMs es M k ↔ x ∈ M k ∧ ∀ e ∈ es, e.con.ks = [k] → x.c ≠ e.c
  | [], M, k, x => by simp [preMs]
  | e :: r, M, k, x => by
    show x ∈ preMs r (preM e M) k ↔ _
    rw [preMs_mem r, preM_mem]
    simp only [List.mem_cons, forall_eq_or_imp, and_assoc]
theorem preL_mem (e : Ent) (L : List Ent) (x : Ent) (h : x ∈ L) (hc : x.c ≠ e.c) : x ∈ preL e L := by
  unfold preL
  split
  · simp [h, hc]
  · exact h

section
variable {prog : Program} {w : World} {n : Nat} {H0 H : Hp} {vt : List Vr} {dd vc lcs : Addr} {lsts : Nat → Addr} {L : List Ent} {M : Nat → List Ent} {σ : Sg}

theorem loop8 (hn : 5 ≤ n) (Z : PreS vt lcs lsts) {src : AV} {Q : Fl → Loc → Hp → Prop} (hsrc : ∀ H', Chg (Sp vt lcs lsts) H0 H' → sameSrc H0 H' src) (m0 : Loc) (s1 : m0 "vconstraints" = some (.ref vc)) (s2 : m0 "domains" = some (.ref dd)) (s3 : m0 "constraints" = some (.ref lcs)) :
    ∀ (rest L : List Ent) (M : Nat → List Ent) (σ : Sg) (m : Loc) (H : Hp), (∀ y, y ≠ "constraint" → y ≠ "variables" → m y = m0 y) → Chg (Sp vt lcs lsts) H0 H → PP vt dd vc lcs lsts L M σ H → (rest.map (·.c)).Nodup →
      (∀ e ∈ rest, e ∈ L ∧ (∀ k ∈ e.con.ks, k < vt.length) ∧ ∀ k, e.con.ks = [k] → ∃ e' ∈ M k, e'.c = e.c ∧ e'.vl = e.vl) →
      (∀ m' H' L', (∀ y, y ≠ "constraint" → y ≠ "variables" → m' y = m0 y) → Chg (Sp vt lcs lsts) H0 H' → PP vt dd vc lcs lsts L' (preMs rest M) (preAll rest σ) H' → Q .next m' H') →
      forL (fun H' => sameSrc H0 H' src) (fun y Q' m' H' => bindT ["constraint", "variables"] y (fun m'' => semSL (CX prog w n) body8 Q' m'') m' H') (semSL (CX prog w n) .nil) Q (rest.map fun e => AV.ref e.z) m H := by
  intro rest
  induction rest with
  | nil =>
    intro L M σ m H k1 c P nd hr q
    exact ⟨hsrc H c, by simp only [semSL.eq_1]; exact q m H L k1 c P⟩
  | cons e rest ih =>
    intro L M σ m H k1 c P nd hr q
    rw [List.map_cons, forL]
    refine ⟨hsrc H c, ?_⟩
    obtain ⟨he, hk, hm⟩ := hr e (by simp)
    simp only [List.map_cons, List.nodup_cons] at nd
    have E := P.ent e he
    have key : ∀ K : Fl → Loc → Hp → Prop, (∀ m2 H2, (∀ y, y ≠ "constraint" → y ≠ "variables" → m2 y = m0 y) → Chg (Sp vt lcs lsts) H H2 → PP vt dd vc lcs lsts (preL e L) (preM e M) (pre2 e.con (pre1 e.con σ)) H2 → K .next m2 H2) →
        bindT ["constraint", "variables"] (.ref e.z) (fun m'' => semSL (CX prog w n) body8 K m'') m H := by
      intro K hK
      simp only [bindT, E.tup]
      refine ⟨rfl, ?_⟩
      simp only [List.zip, List.zipWith, List.foldl]
      have u0 : ∀ y, y ≠ "constraint" → y ≠ "variables" → (upL (upL m "constraint" (.ref e.c)) "variables" (.ref e.vl)) y = m0 y := fun y n1 n2 => by rw [← k1 y n1 n2]; simp [upL, n1, n2]
      have u1 : (upL (upL m "constraint" (.ref e.c)) "variables" (.ref e.vl)) "constraint" = some (.ref e.c) := by simp [upL]
      have u2 : (upL (upL m "constraint" (.ref e.c)) "variables" (.ref e.vl)) "variables" = some (.ref e.vl) := by simp [upL]
      generalize upL (upL m "constraint" (.ref e.c)) "variables" (.ref e.vl) = m1 at u0 u1 u2 ⊢
      have u3 := (u0 "vconstraints" (by decide) (by decide)).trans s1
      have u4 := (u0 "domains" (by decide) (by decide)).trans s2
      have u5 := (u0 "constraints" (by decide) (by decide)).trans s3
      obtain ⟨f, hf, hcx⟩ := pre_call (prog := prog) (w := w) (Q := fun v H' => v = .none ∧ K .next m1 H') Z P hk he hm fun H' c' P' => ⟨rfl, hK m1 H' u0 c' P'⟩
      rw [body8, semSL.eq_2, semS]
      simp only [semX, semL, VT.of, u1, u2, u3, u4, u5, hf]
      refine cx_up (CX.mono hcx fun v H' z => ?_) hn
      simp only [semSL.eq_1]
      exact z.2
    refine key _ fun m2 H2 k2 c2 P2 => ?_
    refine ih (preL e L) (preM e M) _ m2 H2 k2 (c.trans c2) P2 nd.2 (fun x hx => ?_) q
    obtain ⟨hx1, hx2, hx3⟩ := hr x (by simp [hx])
    have hne : x.c ≠ e.c := fun e2 => nd.1 (List.mem_map.mpr ⟨x, hx, e2⟩)
    refine ⟨preL_mem e L x hx1 hne, hx2, fun k hk => ?_⟩
    obtain ⟨e', a, b, d⟩ := hx3 k hk
    exact ⟨e', (preM_mem e M k e').mpr ⟨a, fun _ => by rw [b]; exact hne⟩, b, d⟩

theorem loop9 (hn : 1 ≤ n) (hp : vt.Pairwise Apart) {σ : Sg} (h0 : ∀ k, k < vt.length → (σ k).hid = [] ∧ (σ k).sts = [] ∧ okS (σ k)) {src : AV} {Q : Fl → Loc → Hp → Prop} (hsrc : ∀ H', Chg (dynOf vt) H0 H' → sameSrc H0 H' src) (m0 : Loc)
    (qret : ∀ m H' z k, k < vt.length → (σ k).vis = [] → Chg (dynOf vt) H0 H' → H' z = some (.tuple [.none, .none, .none]) → Q (.ret (.ref z)) m H')
    (qn : ∀ m' H', (∀ y, y ≠ "domain" → m' y = m0 y) → Chg (dynOf vt) H0 H' → Doms H' vt σ → (∀ k, k < vt.length → (σ k).vis ≠ []) → Q .next m' H') :
    ∀ (r i : Nat) (m : Loc) (H : Hp), i + r = vt.length → (∀ y, y ≠ "domain" → m y = m0 y) → Chg (dynOf vt) H0 H → Doms H vt σ → (∀ k, k < i → (σ k).vis ≠ []) →
      forL (fun H' => sameSrc H0 H' src) (fun y Q' m' H' => bindT ["domain"] y (fun m'' => semSL (CX prog w n) body9 Q' m'') m' H') (semSL (CX prog w n) .nil) Q ((vt.drop i).map fun v => AV.ref v.d) m H := by
  intro r
  induction r with
  | zero =>
    intro i m H e k1 c D hne
    have : vt.drop i = [] := by simp; omega
    rw [this]
    exact ⟨hsrc H c, by simp only [semSL.eq_1]; exact qn m H k1 c D (fun k hk => hne k (by omega))⟩
  | succ r ih =>
    intro i m H e k1 c D hne
    have lt : i < vt.length := by omega
    obtain ⟨v, hv⟩ : ∃ v, vt[i]? = some v := ⟨_, List.getElem?_eq_getElem lt⟩
    rw [List.drop_eq_getElem_cons lt, List.map_cons, forL]
    refine ⟨hsrc H c, ?_⟩
    have hvi : vt[i] = v := by rw [List.getElem?_eq_getElem lt] at hv; exact Option.some.inj hv
    rw [hvi]
    have V := D i v hv
    obtain ⟨d1, d2, d3⟩ := dyn_mem hv
    obtain ⟨z1, z2, z3⟩ := h0 i lt
    have key : ∀ K : Fl → Loc → Hp → Prop, (∀ H2, Chg (dynOf vt) H H2 → Doms H2 vt σ → (σ i).vis ≠ [] → K .next (upL m "domain" (.ref v.d)) H2) → (∀ H2 z, Chg (dynOf vt) H H2 → (σ i).vis = [] → H2 z = some (.tuple [.none, .none, .none]) → K (.ret (.ref z)) (upL m "domain" (.ref v.d)) H2) →
        bindT ["domain"] (.ref v.d) (fun m'' => semSL (CX prog w n) body9 K m'') m H := by
      intro K hK hR
      have t1 : (upL m "domain" (.ref v.d)) "domain" = some (.ref v.d) := by simp [upL]
      simp only [bindT]
      generalize upL m "domain" (.ref v.d) = m1 at t1 hK hR ⊢
      have mm : methOf H (.ref v.d) "resetState" = some (.py 279) := by
        rw [e_meth_dom V.dom V.ns (by decide)]; rfl
      rw [body9, semSL.eq_2, semS]
      simp only [semX, semL, VT.of, t1, mm]
      refine cx_up (cx_reset V (by have := z3.2; simp; unfold big; omega) fun H2 c2 D2 => ?_) hn
      have D2' : Doms H2 vt σ := by
        have := D.one hp hv (s := σ i) c2 (by
          unfold VrAt
          rw [z1, z2]
          rw [z1] at D2
          simpa using D2)
        have e2 : σ.set i (σ i) = σ := by funext j; unfold Sg.set; split <;> simp_all
        rw [e2] at this; exact this
      have V2 := D2' i v hv
      have c2' : Chg (dynOf vt) H H2 := c2.mono (by simp; exact ⟨d3, d1, d2⟩)
      rw [semSL.eq_2, semS]
      simp only [semX, VT.of, t1, e_truth_dom V2.dom]
      by_cases hx : (σ i).vis = []
      · have hb : ((σ i).vis.map AV.int).isEmpty = true := by rw [hx]; rfl
        simp only [hb, Bool.not_true, Bool.not_false, if_true]
        rw [semSL.eq_2, semS]
        simp only [semX, semL, VT.of]
        refine ⟨by simp, fun z fz => ?_⟩
        exact hR _ z (c2'.new fz) hx upd_at
      · have hb : ((σ i).vis.map AV.int).isEmpty = false := by cases h : (σ i).vis with | nil => exact absurd h hx | cons _ _ => rfl
        simp only [hb, Bool.not_false, Bool.not_true, Bool.false_eq_true, if_false, semSL.eq_1]
        exact hK H2 c2' D2' hx
    refine key _ (fun H2 c2 D2 hx => ?_) fun H2 z c2 hx hz => ?_
    · exact ih (i + 1) _ H2 (by omega) (fun y ny => by rw [← k1 y ny]; simp [upL, ny]) (c.trans c2) D2 fun k hk => by
        by_cases h : k = i
        · subst h; exact hx
        · exact hne k (by omega)
    · exact qret _ H2 z i lt hx (c.trans c2) hz
end
end Csp

namespace Csp
open PySem PySem.W PySem.Calls PyProof.Rows PySem.SeqAt Builtin Builtin.ObjectAttr

/-- a constraint's object -/
def conO (H : Hp) (S : List Addr) (c : Addr) : Con → Prop
  | .mx i _ => c ∉ S ∧ c ≠ 347 ∧ ∃ cdx, H c = some (.inst 410 cdx) ∧ cdx ∉ S ∧ H cdx = some (.ns [("_maxsum", .int i), ("_multipliers", .none)])
  | .mn i _ => c ∉ S ∧ c ≠ 347 ∧ ∃ cdx, H c = some (.inst 438 cdx) ∧ cdx ∉ S ∧ H cdx = some (.ns [("_minsum", .int i), ("_multipliers", .none)])
  | .sm _ => c ∉ S ∧ c ≠ 347 ∧ ∃ cdx l, H c = some (.inst 466 cdx) ∧ cdx ∉ S ∧ H cdx = some (.ns [("_set", .ref l), ("_n", .int 1), ("_exact", .bool false)]) ∧ l ∉ S ∧ H l = some (.list [.int 1])
theorem conO.at {H : Hp} {S : List Addr} {c vl : Addr} {con : Con} (h : conO H S c con) (hl : H vl = some (.list (con.ks.map fun (k : Nat) => AV.int (k : Int)))) (nl : vl ∉ S) : ConAt H S c vl con := by
  cases con with
  | mx i ks => exact ⟨hl, nl, h.1, h.2.1, h.2.2⟩
  | mn i ks => exact ⟨hl, nl, h.1, h.2.1, h.2.2⟩
  | sm ks => exact ⟨hl, nl, h.1, h.2.1, h.2.2⟩
theorem conO.chg {H H' : Hp} {S : List Addr} {c : Addr} {con : Con} (h : conO H S c con) (k : Chg S H H') : conO H' S c con := by
  cases con with
  | mx i ks => obtain ⟨a, b, x, d, e, f⟩ := h; exact ⟨a, b, x, k _ _ d a, e, k _ _ f e⟩
  | mn i ks => obtain ⟨a, b, x, d, e, f⟩ := h; exact ⟨a, b, x, k _ _ d a, e, k _ _ f e⟩
  | sm ks => obtain ⟨a, b, x, l, d, e, f, g, i⟩ := h; exact ⟨a, b, x, l, k _ _ d a, e, k _ _ f e, g, k _ _ i g⟩

/-- a problem's constraints -/
structure RawOk (H : Hp) (vt : List Vr) (r : RC) : Prop where
  at' : RawAt H r
  nz : r.z ∉ dynOf vt
  nl : ∀ vl, r.ov = some vl → vl ∉ dynOf vt
  obj : conO H (dynOf vt) r.c r.con
  all : r.ov = none → r.con.ks = List.range vt.length
  nd : r.con.ks.Nodup
  lt : ∀ k ∈ r.con.ks, k < vt.length
theorem RawOk.chg {H H' : Hp} {vt : List Vr} {r : RC} (R : RawOk H vt r) (c : Chg (dynOf vt) H H') : RawOk H' vt r :=
  ⟨⟨c _ _ R.at'.tup R.nz, fun vl h => ⟨c _ _ (R.at'.lst vl h).1 (R.nl vl h), (R.at'.lst vl h).2⟩⟩, R.nz, R.nl, R.obj.chg c, R.all, R.nd, R.lt⟩

/-- what _getArgs makes of a problem -/
structure Prep (n : Nat) (cons : List Con) (N : Net) : Prop where
  num : N.n = n
  dom : ∀ k, k < n → ∀ x, x ∈ N.dom k ↔ (x = 0 ∨ x = 1) ∧ ∀ c ∈ cons, okAt c k x
  vcs : ∀ k, k < n → ∀ c, c ∈ N.vcs k ↔ c ∈ cons ∧ k ∈ c.ks ∧ c.ks ≠ [k]
def SolP (n : Nat) (cons : List Con) (f : Nat → Int) : Prop := Bin f ∧ ∀ c ∈ cons, c.sat f

theorem sum_le {f : Nat → Int} (hb : Bin f) : ∀ (ks : List Nat), 0 ≤ (ks.map f).sum ∧ ∀ k ∈ ks, f k ≤ (ks.map f).sum
  | [] => by simp
  | a :: r => by
    obtain ⟨h1, h2⟩ := sum_le hb r
    rw [List.map_cons, List.sum_cons]
    have := hb a
    refine ⟨by omega, fun k hk => ?_⟩
    rcases List.mem_cons.mp hk with rfl | hk
    · omega
    · have := h2 k hk; omega

theorem prep_ok {n : Nat} {cons : List Con} {N : Net} (P : Prep n cons N) (hn : n ≤ 6) (hc : ∀ c ∈ cons, ∀ k ∈ c.ks, k < n) (hnd : ∀ c ∈ cons, c.ks.Nodup) : N.ok where
  small := by rw [P.num]; exact hn
  vars k hk c hcm j hj := by
    rw [P.num] at hk ⊢
    obtain ⟨h1, h2, h3⟩ := (P.vcs k hk c).mp hcm
    have hjn := hc c h1 j hj
    refine ⟨hjn, (P.vcs j hjn c).mpr ⟨h1, hj, fun e => ?_⟩⟩
    rw [e] at h2 h3
    simp only [List.mem_cons, List.not_mem_nil, or_false] at h2
    subst h2
    exact h3 rfl
  bin k hk x hx := by
    rw [P.num] at hk
    exact ((P.dom k hk x).mp hx).1
theorem prep_sol {n : Nat} {cons : List Con} {N : Net} (P : Prep n cons N) (hc : ∀ c ∈ cons, ∀ k ∈ c.ks, k < n) (hne : ∀ c ∈ cons, c.ks ≠ []) (f : Nat → Int) : N.Sol f ↔ SolP n cons f := by
  constructor
  · rintro ⟨hb, hd, hv⟩
    rw [P.num] at hd hv
    refine ⟨hb, fun c hcm => ?_⟩
    obtain ⟨k, hk⟩ : ∃ k, k ∈ c.ks := by
      cases h : c.ks with
      | nil => exact absurd h (hne c hcm)
      | cons a r => exact ⟨a, by simp⟩
    have hkn := hc c hcm k hk
    by_cases h1 : c.ks = [k]
    · have := (((P.dom k hkn (f k)).mp (hd k hkn)).2 c hcm).1 h1
      exact (sat1_iff c h1 (hb k) f rfl).mp this
    · exact hv k hkn c ((P.vcs k hkn c).mpr ⟨hcm, hk, h1⟩)
  · rintro ⟨hb, hs⟩
    refine ⟨hb, fun k hk => ?_, fun k hk c hcm => ?_⟩
    · rw [P.num] at hk
      refine (P.dom k hk (f k)).mpr ⟨hb k, fun c hcm => ⟨fun h1 => (sat1_iff c h1 (hb k) f rfl).mpr (hs c hcm), fun i ks e hm => ?_⟩⟩
      have h2 := hs c hcm
      rw [e] at h2
      have h3 : (ks.map f).sum ≤ i := h2
      have := (sum_le hb ks).2 k hm
      omega
    · rw [P.num] at hk
      exact hs c ((P.vcs k hk c).mp hcm).1
end Csp

namespace Csp
open PySem PySem.W PySem.Calls PyProof.Rows PySem.SeqAt Builtin Builtin.ObjectAttr

theorem not_grow {H : Hp} {S S' : List Addr} {x : Addr} {o : AO} (h : H x = some o) (hn : x ∉ S) (hT : ∀ y ∈ S', y ∈ S ∨ H y = none) : x ∉ S' := fun m => by
  rcases hT x m with m | m
  · exact hn m
  · rw [m] at h; cases h
theorem conO.grow {H : Hp} {S S' : List Addr} {c : Addr} {con : Con} (h : conO H S c con) (hT : ∀ y ∈ S', y ∈ S ∨ H y = none) : conO H S' c con := by
  have g : ∀ {x o}, H x = some o → x ∉ S → x ∉ S' := fun h hn m => by
    rcases hT _ m with m | m
    · exact hn m
    · rw [m] at h; cases h
  cases con with
  | mx i ks => obtain ⟨a, b, x, d, e, f⟩ := h; exact ⟨g d a, b, x, d, g f e, f⟩
  | mn i ks => obtain ⟨a, b, x, d, e, f⟩ := h; exact ⟨g d a, b, x, d, g f e, f⟩
  | sm ks => obtain ⟨a, b, x, l, d, e, f, i, j⟩ := h; exact ⟨g d a, b, x, l, d, g f e, f, g j i, j⟩
theorem conO.sub {H : Hp} {S S' : List Addr} {c : Addr} {con : Con} (h : conO H S c con) (hT : ∀ y ∈ S', y ∈ S) : conO H S' c con := h.grow fun y hy => Or.inl (hT y hy)

theorem atL_mem {ls : List Addr} {k : Nat} (h : k < ls.length) : atL ls k ∈ ls := by
  unfold atL
  rw [List.getD_eq_getElem?_getD, List.getElem?_eq_getElem h]
  exact List.getElem_mem h
theorem atL_inj {ls : List Addr} (nd : ls.Nodup) {j k : Nat} (hj : j < ls.length) (hk : k < ls.length) (e : atL ls j = atL ls k) : j = k := by
  unfold atL at e
  rw [List.getD_eq_getElem?_getD, List.getD_eq_getElem?_getD, List.getElem?_eq_getElem hj, List.getElem?_eq_getElem hk] at e
  exact (List.getElem?_inj hj nd).mp (by rw [List.getElem?_eq_getElem hj, List.getElem?_eq_getElem hk]; exact congrArg some e)

theorem pre_tr {L : List Ent} {rcs : List RC} {av : Addr} (h : L.map (·.tr) = rcs.map (·.tr av)) : L.map (·.c) = rcs.map (·.c) ∧ L.map (·.con) = rcs.map (·.con) ∧ ∀ e ∈ L, ∃ r ∈ rcs, e.c = r.c ∧ e.vl = r.ov.getD av ∧ e.con = r.con := by
  refine ⟨?_, ?_, fun e he => ?_⟩
  · have := congrArg (List.map fun t : Addr × Addr × Con => t.1) h
    simpa [List.map_map, Function.comp_def, Ent.tr, RC.tr] using this
  · have := congrArg (List.map fun t : Addr × Addr × Con => t.2.2) h
    simpa [List.map_map, Function.comp_def, Ent.tr, RC.tr] using this
  · have : e.tr ∈ rcs.map (·.tr av) := by rw [← h]; exact List.mem_map.mpr ⟨e, he, rfl⟩
    obtain ⟨r, hr, e2⟩ := List.mem_map.mp this
    simp only [RC.tr, Ent.tr, Prod.mk.injEq] at e2
    exact ⟨r, hr, e2.1.symm, e2.2.1.symm, e2.2.2.symm⟩

/-- what the loop over all constraints leaves, and what the preprocessing makes of it -/
theorem prep_of {n : Nat} {L : List Ent} {M : Nat → List Ent} {σ : Sg} {cons : List Con} (hL : L.map (·.con) = cons) (nd : (L.map (·.c)).Nodup) (hks : ∀ e ∈ L, e.con.ks.Nodup)
    (h0 : ∀ k, k < n → ∀ x, x ∈ (σ k).vis ↔ x = 0 ∨ x = 1) (hM : ∀ k, k < n → (M k).map (·.tr) = (L.filter fun e => decide (k ∈ e.con.ks)).map (·.tr)) :
    Prep n cons ⟨n, fun k => (preAll L σ k).vis, fun k => (preMs L M k).map (·.con)⟩ where
  num := rfl
  dom k hk x := by
    show x ∈ (preAll L σ k).vis ↔ _
    rw [(pre_all L σ k hks).1 x, h0 k hk, ← hL]
    simp only [List.mem_map, forall_exists_index, and_imp, forall_apply_eq_imp_iff₂]
  vcs k hk c := by
    show c ∈ (preMs L M k).map (·.con) ↔ _
    have mem : ∀ e : Ent, e ∈ M k → ∃ e2 ∈ L, k ∈ e2.con.ks ∧ e2.c = e.c ∧ e2.con = e.con := fun e he => by
      have : e.tr ∈ (L.filter fun e => decide (k ∈ e.con.ks)).map (·.tr) := by rw [← hM k hk]; exact List.mem_map.mpr ⟨e, he, rfl⟩
      obtain ⟨e2, h2, e3⟩ := List.mem_map.mp this
      obtain ⟨h3, h4⟩ := List.mem_filter.mp h2
      simp only [Ent.tr, Prod.mk.injEq] at e3
      exact ⟨e2, h3, by simpa using h4, e3.1, e3.2.2⟩
    have mem2 : ∀ e2 ∈ L, k ∈ e2.con.ks → ∃ e ∈ M k, e.c = e2.c ∧ e.con = e2.con := fun e2 h2 hk2 => by
      have : e2.tr ∈ (M k).map (·.tr) := by rw [hM k hk]; exact List.mem_map.mpr ⟨e2, List.mem_filter.mpr ⟨h2, by simpa using hk2⟩, rfl⟩
      obtain ⟨e, he, e3⟩ := List.mem_map.mp this
      simp only [Ent.tr, Prod.mk.injEq] at e3
      exact ⟨e, he, e3.1, e3.2.2⟩
    constructor
    · intro h
      obtain ⟨e, he, rfl⟩ := List.mem_map.mp h
      obtain ⟨h1, h2⟩ := (preMs_mem L M k e).mp he
      obtain ⟨e2, a, b, c1, d⟩ := mem e h1
      refine ⟨by rw [← hL]; exact List.mem_map.mpr ⟨e2, a, d⟩, by rw [← d]; exact b, fun e3 => ?_⟩
      exact h2 e2 a (by rw [d]; exact e3) c1.symm
    · rintro ⟨h1, h2, h3⟩
      rw [← hL] at h1
      obtain ⟨e2, a, rfl⟩ := List.mem_map.mp h1
      obtain ⟨e, he, c1, d⟩ := mem2 e2 a h2
      refine List.mem_map.mpr ⟨e, (preMs_mem L M k e).mpr ⟨he, fun e' he' hk' e4 => ?_⟩, d⟩
      have : e2 = e' := by
        obtain ⟨i, hi, rfl⟩ := List.getElem_of_mem a
        obtain ⟨j, hj, rfl⟩ := List.getElem_of_mem he'
        have e5 : (L.map (·.c))[i]'(by simpa using hi) = (L.map (·.c))[j]'(by simpa using hj) := by
          rw [List.getElem_map, List.getElem_map, ← c1, e4]
        have := (List.getElem?_inj (j := j) (by simpa using hi) nd).mp (by rw [List.getElem?_eq_getElem (by simpa using hi), List.getElem?_eq_getElem (by simpa using hj)]; exact congrArg some e5)
        subst this; rfl
      subst this
      exact h3 hk'

theorem pp_start {vt : List Vr} {dd vc lcs : Addr} {ls : List Addr} {L : List Ent} {σ : Sg} {H : Hp} (ap : vt.Pairwise Apart) (len : ls.length = vt.length) (nd : ls.Nodup) (nl : lcs ∉ dynOf vt) (nk : ∀ a ∈ ls, a ∉ dynOf vt ∧ lcs ≠ a)
    (hd : ∃ ep, H dd = some (.dict (tab vt) ep)) (hv : ∃ ep, H vc = some (.dict (vdict ls) ep)) (hl : H lcs = some (.list (L.map fun e => .ref e.z))) (hls : ∀ a ∈ ls, H a = some (.list []))
    (hE : ∀ e ∈ L, EntAt H (Sp vt lcs (atL ls)) e) (ndc : (L.map (·.c)).Nodup) (D : Doms H vt σ) (h0 : ∀ k, k < vt.length → σ k = ⟨[0, 1], [], []⟩) : PreS vt lcs (atL ls) ∧ PP vt dd vc lcs (atL ls) L (fun _ => []) σ H := by
  have Z : PreS vt lcs (atL ls) := ⟨ap, nl, fun k hk => nk _ (atL_mem (by omega)), fun j k hj hk e => atL_inj nd (by omega) (by omega) e⟩
  have dct : ∀ a ds ep, H a = some (.dict ds ep) → a ∉ Sp vt lcs (atL ls) := fun a ds ep h m => by
    rcases List.mem_append.mp m with m | m
    · unfold dynOf at m
      rw [List.mem_flatMap] at m
      obtain ⟨v, hv, hm⟩ := m
      obtain ⟨i, hi, rfl⟩ := List.getElem_of_mem hv
      have V := D i _ (List.getElem?_eq_getElem hi)
      have t1 := V.dom; have t2 := V.hid; have t3 := V.sts
      simp only [List.mem_cons, List.not_mem_nil, or_false] at hm
      rcases hm with rfl | rfl | rfl
      · rw [h] at t1; cases t1
      · rw [h] at t2; cases t2
      · rw [h] at t3; cases t3
    · rcases List.mem_cons.mp m with rfl | m
      · rw [h] at hl; cases hl
      · obtain ⟨k, hk, rfl⟩ := List.mem_map.mp m
        rw [hls _ (atL_mem (by rw [len]; simpa using hk))] at h; cases h
  obtain ⟨e1, h1⟩ := hd
  obtain ⟨e2, h2⟩ := hv
  refine ⟨Z, ⟨⟨e1, h1⟩, dct _ _ _ h1, ⟨e2, by unfold vdict at h2; rw [len] at h2; exact h2⟩, dct _ _ _ h2, hl, fun k hk => hls _ (atL_mem (by omega)), hE, fun k hk e he => by simp at he, ndc, fun k hk => List.nodup_nil, D, fun k hk => ?_⟩⟩
  rw [h0 k hk]
  exact ⟨⟨by simp, by simp⟩, by simp⟩

theorem dom_look {vt : List Vr} : (tab vt).map (·.2) = vt.map fun v => AV.ref v.d := by
  unfold tab
  rw [List.map_map]
  have : ∀ (l : List Vr) (i : Nat), (l.zipIdx i).map ((fun p : Int × AV => p.2) ∘ fun p : Vr × Nat => ((p.2 : Int), AV.ref p.1.d)) = l.map fun v => AV.ref v.d := by
    intro l
    induction l with
    | nil => intro i; rfl
    | cons a r ih => intro i; rw [List.zipIdx_cons, List.map_cons, List.map_cons, ih]; rfl
  exact this vt 0
end Csp

namespace Csp
open PySem PySem.W PySem.Calls PyProof.Rows PySem.SeqAt Builtin Builtin.ObjectAttr

def bEnd107 : SL := .cons (.ret (.tup (.cons (.loc "domains") (.cons (.loc "constraints") (.cons (.loc "vconstraints") .nil))))) .nil
def bMid107 : SL := .cons (.for1 ["constraint", "variables"] (.loc "constraints") body7 .nil) (.cons (.for1 ["constraint", "variables"] (.full (.loc "constraints")) body8 .nil) (.cons (.for1 ["domain"] (.meth (.loc "domains") "values" .nil) body9 .nil) bEnd107))
def bPre107 : SL := .cons (.assign "vconstraints" .dict0) (.cons (.for1 ["variable"] (.loc "domains") body6 .nil) bMid107)
theorem b107_eq : b107 = .cons (.assign "domains" (.meth (.attr (.loc "self") "_variables") "copy" .nil)) (.cons (.assign "allvariables" (.bi .list (.cons (.loc "domains") .nil))) (.cons (.assign "constraints" (.list .nil)) (.cons (.for1 ["constraint", "variables"] (.attr (.loc "self") "_constraints") body4 .nil) bPre107))) := rfl

section
variable {prog : Program} {w : World} {n : Nat} {H0 H : Hp} {vt : List Vr} {dd vc lcs : Addr} {L : List Ent} {M : Nat → List Ent} {σ : Sg}

/-- the end of _getArgs: from the lists of entries, all made -/
theorem mid107 (hn : 5 ≤ n) {lsts : Nat → Addr} (Z : PreS vt lcs lsts) (P : PP vt dd vc lcs lsts L (fun _ => []) σ H) {cons : List Con} (hcs : L.map (·.con) = cons) (hsm : vt.length ≤ 6) (hL : ∀ e ∈ L, (∀ k ∈ e.con.ks, k < vt.length) ∧ e.con.ks.Nodup) (hlen : L.length < 100)
    (h0 : ∀ k, k < vt.length → σ k = ⟨[0, 1], [], []⟩) {m : Loc} (s1 : m "domains" = some (.ref dd)) (s2 : m "constraints" = some (.ref lcs)) (s3 : m "vconstraints" = some (.ref vc)) {Q : Fl → Loc → Hp → Prop}
    (qn : ∀ m' H' z, Chg (Sp vt lcs lsts) H H' → H' z = some (.tuple [.none, .none, .none]) → (∀ f, SolP vt.length cons f → False) → Q (.ret (.ref z)) m' H')
    (qs : ∀ m' H' z N M' σ', Chg (Sp vt lcs lsts) H H' → H' z = some (.tuple [.ref dd, .ref lcs, .ref vc]) → Prep vt.length cons N → N.ok → Srch H' (dynOf vt) N vt dd vc lsts M' → Doms H' vt σ' → (∀ k, k < N.n → (σ' k).sts = []) → Good N [] σ' → Q (.ret (.ref z)) m' H') :
    semSL (CX prog w n) bMid107 Q m H := by
  have nlc := P.lc
  rw [bMid107, semSL.eq_2, semS]
  simp only [semX, VT.of, s2, e_items_list nlc]
  refine loop7 (prog := prog) (w := w) (n := n) (H0 := H) (src := .ref lcs) Z (fun H' M' c P' => by simp only [sameSrc, nlc, P'.lc, and_self]) m s3 hL hlen L [] (fun _ => []) m H rfl (fun _ _ _ _ => rfl) (Chg.refl _ _) P (fun k hk => by simp) fun m1 H1 M1 k1 c1 P1 hM => ?_
  have t1 := (k1 "domains" (by decide) (by decide) (by decide)).trans s1
  have t2 := (k1 "constraints" (by decide) (by decide) (by decide)).trans s2
  have t3 := (k1 "vconstraints" (by decide) (by decide) (by decide)).trans s3
  rw [semSL.eq_2, semS]
  simp only [semX, VT.of, t2, e_full_list P1.lc, newP]
  intro z fz
  have c2 : Chg [] H1 (upd H1 z (.list (L.map fun e => .ref e.z))) := (Chg.refl _ _).new fz
  have hz : (upd H1 z (.list (L.map fun e => .ref e.z))) z = some (.list (L.map fun e => .ref e.z)) := upd_at
  have nz : z ∉ Sp vt lcs lsts := fun h => P1.known z h fz.1
  generalize upd H1 z (.list (L.map fun e => .ref e.z)) = H2 at c2 hz ⊢
  have P2 := P1.chg0 c2
  simp only [e_items_list hz]
  have trs : ∀ k, k < vt.length → ∀ e ∈ L, k ∈ e.con.ks → ∃ e' ∈ M1 k, e'.c = e.c ∧ e'.vl = e.vl := fun k hk e he hke => by
    have : e.tr ∈ (M1 k).map (·.tr) := by rw [hM k hk]; exact List.mem_map.mpr ⟨e, List.mem_filter.mpr ⟨he, by simpa using hke⟩, rfl⟩
    obtain ⟨e', h1, h2⟩ := List.mem_map.mp this
    simp only [Ent.tr, Prod.mk.injEq] at h2
    exact ⟨e', h1, h2.1, h2.2.1⟩
  refine loop8 (prog := prog) (w := w) (n := n) (H0 := H2) (src := .ref z) hn Z (fun H' c => by simp only [sameSrc, hz, c _ _ hz nz, and_self]) m1 t3 t1 t2 L L M1 σ m1 H2 (fun _ _ _ => rfl) (Chg.refl _ _) P2 P.nodup (fun e he => ⟨he, (hL e he).1, fun k hk => trs k ((hL e he).1 k (by rw [hk]; simp)) e he (by rw [hk]; simp)⟩) fun m3 H3 L' k3 c3 P3 => ?_
  have u1 := (k3 "domains" (by decide) (by decide)).trans t1
  have u2 := (k3 "constraints" (by decide) (by decide)).trans t2
  have u3 := (k3 "vconstraints" (by decide) (by decide)).trans t3
  obtain ⟨ed, hd⟩ := P3.dom
  rw [semSL.eq_2, semS]
  simp only [semX, semL, VT.of, u1, e_meth_dict hd (by decide : "values" ≠ "preProcess"), dictMeth, Option.map, biMeth, hd, newP]
  intro y fy
  have c4 : Chg [] H3 (upd H3 y (.dvals dd)) := (Chg.refl _ _).new fy
  have hy : (upd H3 y (.dvals dd)) y = some (.dvals dd) := upd_at
  have ny : y ∉ Sp vt lcs lsts := fun h => P3.known y h fy.1
  generalize upd H3 y (.dvals dd) = H4 at c4 hy ⊢
  have P4 := P3.chg0 c4
  obtain ⟨ed, hd⟩ := P4.dom
  have hit : itemsOf H4 (.ref y) = some (vt.map fun v => AV.ref v.d) := by
    simp only [itemsOf, hy, hd, dom_look]
  simp only [hit]
  have pa : ∀ k, k < vt.length → (∀ x, x ∈ (preAll L σ k).vis ↔ x ∈ (σ k).vis ∧ ∀ e ∈ L, okAt e.con k x) ∧ (preAll L σ k).hid = (σ k).hid ∧ (preAll L σ k).sts = (σ k).sts := fun k hk => pre_all L σ k fun e he => (hL e he).2
  have cS : Chg (Sp vt lcs lsts) H H4 := ((c1.trans (c2.mono (by simp))).trans c3).trans (c4.mono (by simp))
  have ndv : ∀ {a : Addr}, a ∉ Sp vt lcs lsts → a ∉ dynOf vt := fun h m => h (sp_dyn m)
  have Pp : Prep vt.length cons ⟨vt.length, fun k => (preAll L σ k).vis, fun k => (preMs L M1 k).map (·.con)⟩ :=
    prep_of hcs P.nodup (fun e he => (hL e he).2) (fun k hk x => by rw [h0 k hk]; simp) hM
  have hcl : ∀ c ∈ cons, ∀ k ∈ c.ks, k < vt.length := fun c hc => by
    rw [← hcs] at hc
    obtain ⟨e, he, rfl⟩ := List.mem_map.mp hc
    exact (hL e he).1
  have hcn : ∀ c ∈ cons, c.ks.Nodup := fun c hc => by
    rw [← hcs] at hc
    obtain ⟨e, he, rfl⟩ := List.mem_map.mp hc
    exact (hL e he).2
  refine loop9 (prog := prog) (w := w) (n := n) (H0 := H4) (σ := preAll L σ) (src := .ref y) (by omega) Z.ap (fun k hk => ?_) (fun H' c => by simp only [sameSrc, hy, c _ _ hy (ndv ny), hd, c _ _ hd (ndv P4.nd), and_self]) m3 (fun m5 H5 z5 k hk hv c5 h5 => ?_) (fun m5 H5 k5 c5 D5 hne => ?_) vt.length 0 m3 H4 (by simp) (fun _ _ => rfl) (Chg.refl _ _) P4.doms (fun k hk => by omega)
  · obtain ⟨_, a2, a3⟩ := pa k hk
    have := h0 k hk
    refine ⟨by rw [a2, this], by rw [a3, this], (P4.ok k hk).1⟩
  · refine qn m5 H5 z5 (cS.trans (c5.mono fun _ => sp_dyn)) h5 fun f hf => ?_
    have := (pa k hk).1 (f k)
    rw [hv] at this
    have h2 : f k ∈ (σ k).vis := by rw [h0 k hk]; have := hf.1 k; simp; exact this
    have h3 : ∀ e ∈ L, okAt e.con k (f k) := fun e he => by
      have hs := hf.2 e.con (by rw [← hcs]; exact List.mem_map.mpr ⟨e, he, rfl⟩)
      refine ⟨fun h1 => (sat1_iff e.con h1 (hf.1 k) f rfl).mpr hs, fun i ks e2 hm => ?_⟩
      rw [e2] at hs
      have h3 : (ks.map f).sum ≤ i := hs
      have := (sum_le hf.1 ks).2 k hm
      omega
    exact absurd (this.mpr ⟨h2, h3⟩) (by simp)
  · have v1 := (k5 "domains" (by decide)).trans u1
    have v2 := (k5 "constraints" (by decide)).trans u2
    have v3 := (k5 "vconstraints" (by decide)).trans u3
    rw [bEnd107, semSL.eq_2, semS]
    simp only [semX, semL, VT.of, v1, v2, v3]
    refine ⟨by simp, fun z6 f6 => ?_⟩
    have c6 : Chg [] H5 (upd H5 z6 (.tuple [.ref dd, .ref lcs, .ref vc])) := (Chg.refl _ _).new f6
    have hz6 : (upd H5 z6 (.tuple [.ref dd, .ref lcs, .ref vc])) z6 = some (.tuple [.ref dd, .ref lcs, .ref vc]) := upd_at
    generalize upd H5 z6 (.tuple [.ref dd, .ref lcs, .ref vc]) = H6 at c6 hz6 ⊢
    have cD : Chg (dynOf vt) H4 H6 := c5.trans (c6.mono (by simp))
    have Nok := prep_ok Pp hsm hcl hcn
    refine qs m5 H6 z6 _ (preMs L M1) (preAll L σ) (cS.trans (cD.mono fun _ => sp_dyn)) hz6 Pp Nok ?_ (D5.chg0 c6) (fun k hk => ?_) ?_
    · refine ⟨rfl, Z.ap, ⟨ed, cD _ _ hd (ndv P4.nd)⟩, ndv P4.nd, ?_, ndv P4.nv, fun k hk => ⟨cD _ _ (P4.lst k hk) (Z.nk k hk).1, (Z.nk k hk).1⟩, fun k hk e he => ((P4.entM k hk e he).sub fun _ => sp_dyn).chg cD, fun k hk => rfl, fun a h => h⟩
      obtain ⟨ev, hv⟩ := P4.vcd
      exact ⟨ev, cD _ _ hv (ndv P4.nv)⟩
    · obtain ⟨_, a2, a3⟩ := pa k hk
      rw [a3, h0 k hk]
    · refine good_start Nok (fun k hk => List.Perm.refl _) hne (fun k hk => (P4.ok k hk).1) fun k hk c hc e => ?_
      have := ((Pp.vcs k hk c).mp hc).2.1
      rw [e] at this
      simp at this
end
end Csp

namespace Csp
open PySem PySem.W PySem.Calls PyProof.Rows PySem.SeqAt Builtin Builtin.ObjectAttr

section
variable {prog : Program} {w : World} {n : Nat} {H0 H : Hp} {vt : List Vr} {dd vc lcs : Addr} {L : List Ent} {M : Nat → List Ent} {σ : Sg}

/-- _getArgs from the list of all entries on -/
theorem pre107 (hn : 5 ≤ n) (ap : vt.Pairwise Apart) (nl : lcs ∉ dynOf vt) (hdd : ∃ ep, H dd = some (.dict (tab vt) ep)) (hlc : H lcs = some (.list (L.map fun e => .ref e.z))) (D : Doms H vt σ)
    (hE : ∀ e ∈ L, ent0 H e ∧ e.z ∉ lcs :: dynOf vt ∧ conO H (lcs :: dynOf vt) e.c e.con ∧ H e.vl = some (.list (e.con.ks.map fun (k : Nat) => AV.int (k : Int))) ∧ e.vl ∉ lcs :: dynOf vt) (ndc : (L.map (·.c)).Nodup)
    {cons : List Con} (hcs : L.map (·.con) = cons) (hsm : vt.length ≤ 6) (hL : ∀ e ∈ L, (∀ k ∈ e.con.ks, k < vt.length) ∧ e.con.ks.Nodup) (hlen : L.length < 100)
    (h0 : ∀ k, k < vt.length → σ k = ⟨[0, 1], [], []⟩) {m : Loc} (s1 : m "domains" = some (.ref dd)) (s2 : m "constraints" = some (.ref lcs)) {Q : Fl → Loc → Hp → Prop}
    (qn : ∀ m' H' z, Chg (lcs :: dynOf vt) H H' → H' z = some (.tuple [.none, .none, .none]) → (∀ f, SolP vt.length cons f → False) → Q (.ret (.ref z)) m' H')
    (qs : ∀ m' H' z N vc lsts M' σ', Chg (lcs :: dynOf vt) H H' → H' z = some (.tuple [.ref dd, .ref lcs, .ref vc]) → Prep vt.length cons N → N.ok → Srch H' (dynOf vt) N vt dd vc lsts M' → Doms H' vt σ' → (∀ k, k < N.n → (σ' k).sts = []) → Good N [] σ' → Q (.ret (.ref z)) m' H') :
    semSL (CX prog w n) bPre107 Q m H := by
  obtain ⟨epd, hdd⟩ := hdd
  rw [bPre107, semSL.eq_2, semS]
  simp only [semX, VT.of, newP]
  intro vc ep fv
  have c1 : Chg [] H (upd H vc (.dict [] ep)) := (Chg.refl _ _).new fv
  have hv : (upd H vc (.dict [] ep)) vc = some (.dict [] ep) := upd_at
  generalize upd H vc (.dict [] ep) = H1 at c1 hv ⊢
  generalize hm1 : upL m "vconstraints" (.ref vc) = m1
  have t1 : m1 "domains" = some (.ref dd) := by rw [← hm1]; simp [upL, s1]
  have t2 : m1 "constraints" = some (.ref lcs) := by rw [← hm1]; simp [upL, s2]
  have t3 : m1 "vconstraints" = some (.ref vc) := by rw [← hm1]; simp [upL]
  have hd1 := c1 _ _ hdd (by simp)
  have nvd : dd ≠ vc := fv.ne hdd
  rw [semSL.eq_2, semS]
  simp only [semX, VT.of, t1, e_items_dict hd1, tab_keys]
  rw [List.range_eq_range']
  refine loop6 (prog := prog) (w := w) (n := n) (H0 := H1) (vc := vc) (src := .ref dd) (tot := vt.length) (fun H' c => by simp only [sameSrc, hd1, c _ _ hd1 (by simpa using nvd), and_self]) m1 t3 hsm hv vt.length [] m1 H1 (by simp) (fun _ _ => rfl) (Chg.refl _ _) ⟨ep, hv⟩ (by simp) List.nodup_nil fun m2 H2 ls len k2 c2 hvc hls nd => ?_
  have u1 := (k2 "domains" (by decide)).trans t1
  have u2 := (k2 "constraints" (by decide)).trans t2
  have u3 := (k2 "vconstraints" (by decide)).trans t3
  -- known of H stays
  have cH : Chg [] H H2 := fun a x e _ => c2 a x (c1 a x e (by simp)) (by simpa using fv.ne e)
  have nls : ∀ a ∈ ls, H a = none := fun a ha => by
    cases e : H a with
    | none => rfl
    | some x => exact absurd (hls a ha).2 (by rw [c1 a x e (by simp)]; simp)
  have sub : ∀ y ∈ Sp vt lcs (atL ls), y ∈ lcs :: dynOf vt ∨ H y = none := fun y hy => by
    rcases List.mem_append.mp hy with h | h
    · exact Or.inl (List.mem_cons_of_mem _ h)
    · rcases List.mem_cons.mp h with rfl | h
      · exact Or.inl (by simp)
      · obtain ⟨k, hk, rfl⟩ := List.mem_map.mp h
        exact Or.inr (nls _ (atL_mem (by rw [len]; simpa using hk)))
  have nkn : ∀ a ∈ ls, a ∉ dynOf vt ∧ lcs ≠ a := fun a ha => ⟨fun h => D.known a h (nls a ha), fun e => by rw [e, nls a ha] at hlc; cases hlc⟩
  have hE2 : ∀ e ∈ L, EntAt H2 (Sp vt lcs (atL ls)) e := fun e he => by
    obtain ⟨h1, h2, h3, h4, h5⟩ := hE e he
    exact ⟨cH _ _ h1 (by simp), not_grow h1 h2 sub, ((h3.grow sub).chg (cH.mono (by simp))).at (cH _ _ h4 (by simp)) (not_grow h4 h5 sub)⟩
  obtain ⟨Z, P⟩ := pp_start (dd := dd) (vc := vc) ap len nd nl nkn ⟨epd, cH _ _ hdd (by simp)⟩ hvc (cH _ _ hlc (by simp)) (fun a ha => (hls a ha).1) hE2 ndc (D.chg0 cH) h0
  have cF : ∀ {H'}, Chg (Sp vt lcs (atL ls)) H2 H' → Chg (lcs :: dynOf vt) H H' := fun {H'} c a x e na => c a x (cH a x e (by simp)) (not_grow e na sub)
  show semSL (CX prog w n) bMid107 Q m2 H2
  exact mid107 hn Z P hcs hsm hL hlen h0 u1 u2 u3 (fun m' H' z c h1 h2 => qn m' H' z (cF c) h1 h2) fun m' H' z N M' σ' c h1 h2 h3 h4 h5 h6 h7 => qs m' H' z N vc _ M' σ' (cF c) h1 h2 h3 h4 h5 h6 h7

theorem cx_107 {p dx sv l d : Addr} {rcs : List RC} {ep : Nat} (Pr : ProbAt H p dx sv l d (rcs.map fun r => .ref r.z) (tab vt) ep) (ap : vt.Pairwise Apart) (D : Doms H vt σ) (hR : ∀ r ∈ rcs, RawOk H vt r) (ndc : (rcs.map (·.c)).Nodup) (nl : l ∉ dynOf vt)
    (hsm : vt.length ≤ 6) (hlen : rcs.length < 100) (h0 : ∀ k, k < vt.length → σ k = ⟨[0, 1], [], []⟩) {Q : AV → Hp → Prop}
    (qn : ∀ H' z, Chg (dynOf vt) H H' → H' z = some (.tuple [.none, .none, .none]) → (∀ f, SolP vt.length (rcs.map (·.con)) f → False) → Q (.ref z) H')
    (qs : ∀ H' z N dd lcs vc lsts M' σ', Chg (dynOf vt) H H' → H' z = some (.tuple [.ref dd, .ref lcs, .ref vc]) → Prep vt.length (rcs.map (·.con)) N → N.ok → Srch H' (dynOf vt) N vt dd vc lsts M' → Doms H' vt σ' → (∀ k, k < N.n → (σ' k).sts = []) → Good N [] σ' → Q (.ref z) H') :
    CX prog w 6 (.ref 107) [.ref p] Q H := by
  refine cx_fn (n := 5) (ok107 w) (locOf [("self", .ref p)]) (fun vv e => ?_) ?_
  · obtain ⟨x, rfl, e1⟩ := args1 e
    exact ⟨_, bind_107 w x, by simp only [List.map, e1]⟩
  have l1 : locOf [("self", .ref p)] "self" = some (.ref p) := rfl
  generalize locOf [("self", .ref p)] = m0 at l1 ⊢
  rw [b107_eq, semSL.eq_2, semS]
  have lkV : List.lookup "_variables" [("_solver", AV.ref sv), ("_constraints", AV.ref l), ("_variables", AV.ref d)] = some (.ref d) := rfl
  have lkC : List.lookup "_constraints" [("_solver", AV.ref sv), ("_constraints", AV.ref l), ("_variables", AV.ref d)] = some (.ref l) := rfl
  simp only [semX, semL, VT.of, l1, e_attr_inst Pr.inst Pr.ns, lkV, e_meth_dict Pr.dct (by decide : "copy" ≠ "preProcess"), dictMeth, Option.map, biMeth, Pr.dct]
  refine ⟨by decide, rfl, fun dd epd fd => ?_⟩
  have c1 : Chg [] H (upd H dd (.dict (tab vt) epd)) := (Chg.refl _ _).new fd
  have h1 : (upd H dd (.dict (tab vt) epd)) dd = some (.dict (tab vt) epd) := upd_at
  generalize upd H dd (.dict (tab vt) epd) = H1 at c1 h1 ⊢
  generalize hm1 : upL m0 "domains" (.ref dd) = m1
  have s1 : m1 "domains" = some (.ref dd) := by rw [← hm1]; simp [upL]
  have s0 : m1 "self" = some (.ref p) := by rw [← hm1]; simp [upL, l1]
  rw [semSL.eq_2, semS]
  simp only [semX, semL, VT.of, s1, biP, listP, h1, newP, tab_keys]
  intro av fa
  have c2 : Chg [] H1 (upd H1 av (.list ((List.range vt.length).map fun (k : Nat) => AV.int (k : Int)))) := (Chg.refl _ _).new fa
  have h2 : (upd H1 av (.list ((List.range vt.length).map fun (k : Nat) => AV.int (k : Int)))) av = some (.list ((List.range vt.length).map fun (k : Nat) => AV.int (k : Int))) := upd_at
  generalize upd H1 av (.list ((List.range vt.length).map fun (k : Nat) => AV.int (k : Int))) = H2 at c2 h2 ⊢
  generalize hm2 : upL m1 "allvariables" (.ref av) = m2
  have t1 : m2 "domains" = some (.ref dd) := by rw [← hm2]; simp [upL, s1]
  have t0 : m2 "self" = some (.ref p) := by rw [← hm2]; simp [upL, s0]
  have t2 : m2 "allvariables" = some (.ref av) := by rw [← hm2]; simp [upL]
  rw [semSL.eq_2, semS]
  simp only [semX, semL, VT.of, newP]
  refine ⟨by simp, fun lcs fl => ?_⟩
  have c3 : Chg [] H2 (upd H2 lcs (.list [])) := (Chg.refl _ _).new fl
  have h3 : (upd H2 lcs (.list [])) lcs = some (.list []) := upd_at
  have cH : Chg [] H (upd H2 lcs (.list [])) := (c1.trans c2).trans c3
  have na : av ≠ lcs := fl.ne h2
  have nd : dd ≠ lcs := fl.ne (c2 _ _ h1 (by simp))
  have lH : H lcs = none := (fl.back (c1.trans c2)).1
  have aH : H av = none := (fa.back c1).1
  have ha3 := c3 _ _ h2 (by simp)
  have hd3 := c3 _ _ (c2 _ _ h1 (by simp)) (by simp)
  generalize upd H2 lcs (.list []) = H3 at c3 h3 cH ha3 hd3 ⊢
  generalize hm3 : upL m2 "constraints" (.ref lcs) = m3
  have u1 : m3 "domains" = some (.ref dd) := by rw [← hm3]; simp [upL, t1]
  have u0 : m3 "self" = some (.ref p) := by rw [← hm3]; simp [upL, t0]
  have u2 : m3 "allvariables" = some (.ref av) := by rw [← hm3]; simp [upL, t2]
  have u3 : m3 "constraints" = some (.ref lcs) := by rw [← hm3]; simp [upL]
  have hl3 := cH _ _ Pr.lst (by simp)
  have nkn : ∀ {x o}, H x = some o → x ≠ lcs := fun h e => by rw [e, lH] at h; cases h
  rw [semSL.eq_2, semS]
  simp only [semX, semL, VT.of, u0, e_attr_inst (cH _ _ Pr.inst (by simp)) (cH _ _ Pr.ns (by simp)), lkC]
  refine ⟨by decide, rfl, ?_⟩
  simp only [e_items_list hl3]
  refine loop4 (prog := prog) (w := w) (n := 5) (H0 := H3) (av := av) (src := .ref l) (fun H' c => by simp only [sameSrc, hl3, c _ _ hl3 (by simpa using nkn Pr.lst), and_self]) m3 u3 u2 h3 rcs [] m3 H3 (fun _ _ _ => rfl) (fun r hr => ?_) (Chg.refl _ _) (by simpa using h3) (by simp) (by simpa using hlen) fun m4 H4 L k4 c4 h4 hE htr => ?_
  · have R := hR r hr
    exact ⟨⟨cH _ _ R.at'.tup (by simp), fun vl e => ⟨cH _ _ (R.at'.lst vl e).1 (by simp), (R.at'.lst vl e).2⟩⟩, nkn R.at'.tup, fun vl e => nkn (R.at'.lst vl e).1⟩
  · rw [List.nil_append] at h4 hE
    obtain ⟨p1, p2, p3⟩ := pre_tr htr
    have v1 := (k4 "domains" (by decide) (by decide)).trans u1
    have v2 := (k4 "constraints" (by decide) (by decide)).trans u3
    have c04 : Chg [] H H4 := fun a x e _ => c4 a x (cH a x e (by simp)) (by simpa using nkn e)
    have nlc : lcs ∉ dynOf vt := fun h => D.known _ h lH
    show semSL (CX prog w 5) bPre107 _ m4 H4
    have sub : ∀ y ∈ lcs :: dynOf vt, y ∈ dynOf vt ∨ H y = none := fun y hy => by
      rcases List.mem_cons.mp hy with rfl | h
      · exact Or.inr lH
      · exact Or.inl h
    have cF : ∀ {H'}, Chg (lcs :: dynOf vt) H4 H' → Chg (dynOf vt) H H' := fun {H'} c a x e na => c a x (c04 a x e (by simp)) (not_grow e na sub)
    refine pre107 (L := L) (Nat.le_refl 5) ap nlc ⟨epd, c4 _ _ hd3 (by simpa using nd)⟩ h4 (D.chg0 c04) (fun e he => ?_) (by rw [p1]; exact ndc) p2 hsm (fun e he => ?_) (by have := congrArg List.length p1; simp at this; omega) h0 v1 v2 (fun m' H' z c a b => qn H' z (cF c) a b) (fun m' H' z N vc lsts M' σ' c a1 a2 a3 a4 a5 a6 a7 => qs H' z N dd lcs vc lsts M' σ' (cF c) a1 a2 a3 a4 a5 a6 a7)
    · obtain ⟨g1, g2⟩ := hE e he
      obtain ⟨r, hr, e1, e2, e3⟩ := p3 e he
      have R := hR r hr
      have hz : e.z ∉ lcs :: dynOf vt := fun m => by
        rcases List.mem_cons.mp m with h | h
        · rw [h, h3] at g2; cases g2
        · have := (D.chg0 cH).known _ h
          exact this g2
      refine ⟨g1, hz, ?_, ?_⟩
      · rw [e1, e3]; exact (R.obj.grow sub).chg (c04.mono (by simp))
      · rw [e2, e3]
        cases ho : r.ov with
        | some vl =>
          obtain ⟨b1, b2⟩ := R.at'.lst vl ho
          exact ⟨c04 _ _ b1 (by simp), not_grow b1 (R.nl vl ho) sub⟩
        | none =>
          rw [R.all ho]
          refine ⟨c4 _ _ ha3 (by simpa using na), fun m => ?_⟩
          rcases List.mem_cons.mp m with h | h
          · exact na h
          · exact D.known _ h aH
    · obtain ⟨r, hr, e1, e2, e3⟩ := p3 e he
      rw [e3]
      exact ⟨(hR r hr).lt, (hR r hr).nd⟩
end
end Csp

namespace Csp
open PySem PySem.W PySem.Calls PyProof.Rows PySem.SeqAt Builtin Builtin.ObjectAttr

section
variable {prog : Program} {w : World} {n : Nat} {H0 H : Hp} {vt : List Vr} {σ : Sg}

theorem cx_86 {p dx sv sdx l d C : Addr} {fb : Bool} {rcs : List RC} {ep : Nat} (Pr : ProbAt H p dx sv l d (rcs.map fun r => .ref r.z) (tab vt) ep) (ap : vt.Pairwise Apart) (D : Doms H vt σ) (hR : ∀ r ∈ rcs, RawOk H vt r) (ndc : (rcs.map (·.c)).Nodup) (nl : l ∉ dynOf vt)
    (hsm : vt.length ≤ 6) (hlen : rcs.length < 100) (h0 : ∀ k, k < vt.length → σ k = ⟨[0, 1], [], []⟩)
    (hC : C ∈ svC) (g1 : H sv = some (.inst C sdx)) (g2 : H sdx = some (.ns [("_forwardcheck", .bool fb)])) (n1 : p ∉ dynOf vt) (n2 : dx ∉ dynOf vt) (n3 : sv ∉ dynOf vt) (n4 : sdx ∉ dynOf vt) (n5 : sv ≠ 347) {Q : AV → Hp → Prop}
    (qn : ∀ H', Chg (dynOf vt) H H' → (vt.length = 0 ∨ ∀ f, SolP vt.length (rcs.map (·.con)) f → False) → Q .none H')
    (qs : ∀ H' b f asg ep, Chg (dynOf vt) H H' → H' b = some (.dict asg ep) → SolP vt.length (rcs.map (·.con)) f → (∀ k, k < vt.length → look asg (k : Int) = some (.int (f k))) → Q (.ref b) H') :
    CX prog w 21 (.ref 86) [.ref p] Q H := by
  refine cx_fn (n := 20) (ok86 w) (locOf [("self", .ref p)]) (fun vv e => ?_) ?_
  · obtain ⟨x, rfl, e1⟩ := args1 e
    exact ⟨_, bind_86 w x, by simp only [List.map, e1]⟩
  have l1 : locOf [("self", .ref p)] "self" = some (.ref p) := rfl
  generalize locOf [("self", .ref p)] = m0 at l1 ⊢
  have mm : methOf H (.ref p) "_getArgs" = some (.py 107) := by
    rw [e_meth_inst Pr.inst Pr.ns Pr.ne]; rfl
  have lkS : List.lookup "_solver" [("_solver", AV.ref sv), ("_constraints", AV.ref l), ("_variables", AV.ref d)] = some (.ref sv) := rfl
  rw [b86, semSL.eq_2, semS]
  simp only [semX, semL, VT.of, l1, mm]
  refine cx_up (n := 6) (cx_107 Pr ap D hR ndc nl hsm hlen h0 (fun H1 z c1 hz no => ?_) fun H1 z N dd lcs vc lsts M' σ' c1 hz Pp Nok R D1 hs G => ?_) (by decide)
  · simp only [bindT, hz]
    refine ⟨rfl, ?_⟩
    simp only [List.zip, List.zipWith, List.foldl]
    generalize hm : upL (upL (upL m0 "domains" .none) "constraints" .none) "vconstraints" .none = m1
    have t1 : m1 "domains" = some .none := by rw [← hm]; simp [upL]
    rw [semSL.eq_2, semS]
    simp only [semX, VT.of, t1, truthP, Bool.not_false, if_true]
    rw [semSL.eq_2, semS]
    simp only [semX, VT.of, retOf]
    exact qn H1 c1 (Or.inr no)
  · simp only [bindT, hz]
    refine ⟨rfl, ?_⟩
    simp only [List.zip, List.zipWith, List.foldl]
    generalize hm : upL (upL (upL m0 "domains" (.ref dd)) "constraints" (.ref lcs)) "vconstraints" (.ref vc) = m1
    have t0 : m1 "self" = some (.ref p) := by rw [← hm]; simp [upL, l1]
    have t1 : m1 "domains" = some (.ref dd) := by rw [← hm]; simp [upL]
    have t2 : m1 "constraints" = some (.ref lcs) := by rw [← hm]; simp [upL]
    have t3 : m1 "vconstraints" = some (.ref vc) := by rw [← hm]; simp [upL]
    obtain ⟨epd, hd⟩ := R.dom
    rw [semSL.eq_2, semS]
    simp only [semX, VT.of, t1, e_truth_dict hd]
    by_cases hv : vt.length = 0
    · have : (tab vt).isEmpty = true := by
        have := List.eq_nil_of_length_eq_zero hv
        subst this; rfl
      simp only [this, Bool.not_true, Bool.not_false, if_true]
      rw [semSL.eq_2, semS]
      simp only [semX, VT.of, retOf]
      exact qn H1 c1 (Or.inl hv)
    · have : (tab vt).isEmpty = false := by
        have h := tab_len vt
        cases e : tab vt with
        | nil => rw [e] at h; exact absurd h.symm hv
        | cons _ _ => rfl
      simp only [this, Bool.not_true, Bool.not_false, Bool.false_eq_true, if_false, semSL.eq_1]
      have k1 := c1 _ _ g1 n3
      have k2 := c1 _ _ g2 n4
      have ms : methOf H1 (.ref sv) "getSolution" = some (.py (svF C)) := by
        rw [e_meth_inst k1 k2 n5]
        simp only [svC, List.mem_cons, List.not_mem_nil, or_false] at hC
        rcases hC with rfl | rfl <;> rfl
      rw [semSL.eq_2, semS]
      simp only [semX, semL, VT.of, t0, t1, t2, t3, e_attr_inst (c1 _ _ Pr.inst n1) (c1 _ _ Pr.ns n2), lkS, ms]
      refine ⟨by decide, rfl, ?_⟩
      have hN : N.n = vt.length := Pp.num
      have hcl : ∀ c ∈ rcs.map (·.con), ∀ k ∈ c.ks, k < vt.length := fun c hc => by
        obtain ⟨r, hr, rfl⟩ := List.mem_map.mp hc
        exact (hR r hr).lt
      have hne : ∀ c ∈ rcs.map (·.con), c.ks ≠ [] := fun c hc => by
        obtain ⟨r, hr, rfl⟩ := List.mem_map.mp hc
        cases ho : r.ov with
        | some vl => exact ((hR r hr).at'.lst vl ho).2
        | none =>
          rw [(hR r hr).all ho]
          intro e
          have := congrArg List.length e
          simp at this
          exact hv (by rw [this]; rfl)
      have sol := prep_sol Pp hcl hne
      refine cx_solve Nok (by omega) hC R k1 k2 n3 n4 n5 G D1 hs (fun H2 c2 no => ?_) fun H2 b f asg ep c2 h1 h2 h3 => ?_
      · simp only [retOf]
        exact qn H2 (c1.trans c2) (Or.inr fun f hf => no f ((sol f).mpr hf))
      · simp only [retOf]
        exact qs H2 b f asg ep (c1.trans c2) h1 ((sol f).mp h2) (fun k hk => h3 k (by omega))
end
end Csp

namespace Csp
open PySem PySem.W PySem.Calls PyProof.Rows PySem.SeqAt Builtin Builtin.ObjectAttr

theorem dyn_type {H : Hp} {vt : List Vr} {σ : Sg} (D : Doms H vt σ) {a : Addr} (m : a ∈ dynOf vt) : (∃ dx xs, H a = some (.dom 303 dx xs)) ∨ ∃ xs, H a = some (.list xs) := by
  unfold dynOf at m
  rw [List.mem_flatMap] at m
  obtain ⟨v, hv, hm⟩ := m
  obtain ⟨i, hi, rfl⟩ := List.getElem_of_mem hv
  have V := D i _ (List.getElem?_eq_getElem hi)
  simp only [List.mem_cons, List.not_mem_nil, or_false] at hm
  rcases hm with rfl | rfl | rfl
  · exact Or.inl ⟨_, _, V.dom⟩
  · exact Or.inr ⟨_, V.hid⟩
  · exact Or.inr ⟨_, V.sts⟩
theorem Chg.low {S : List Addr} {Hs H H' : Hp} (c : Chg [] Hs H) (d : Chg S H H') (h : ∀ y ∈ S, Hs y = none) : Chg [] Hs H' := fun a x e _ => d a x (c a x e (by simp)) (fun m => by rw [h a m] at e; cases e)
theorem Fresh.low {Hs H : Hp} {a : Addr} (c : Chg [] Hs H) (f : Fresh H a) : Hs a = none := (f.back c).1

def sgI : Sg := fun _ => ⟨[0, 1], [], []⟩
structure RawS (H : Hp) (S : List Addr) (vt : List Vr) (r : RC) : Prop where
  at' : RawAt H r
  nz : r.z ∉ S
  nl : ∀ vl, r.ov = some vl → vl ∉ S
  obj : conO H S r.c r.con
  all : r.ov = none → r.con.ks = List.range vt.length
  nd : r.con.ks.Nodup
  lt : ∀ k ∈ r.con.ks, k < vt.length
theorem RawS.chg {H H' : Hp} {S : List Addr} {vt : List Vr} {r : RC} (R : RawS H S vt r) (c : Chg S H H') : RawS H' S vt r :=
  ⟨⟨c _ _ R.at'.tup R.nz, fun vl h => ⟨c _ _ (R.at'.lst vl h).1 (R.nl vl h), (R.at'.lst vl h).2⟩⟩, R.nz, R.nl, R.obj.chg c, R.all, R.nd, R.lt⟩
theorem RawS.raw {H : Hp} {S : List Addr} {vt : List Vr} {r : RC} (R : RawS H S vt r) (h : ∀ a ∈ dynOf vt, a ∈ S) : RawOk H vt r :=
  ⟨R.at', fun m => R.nz (h _ m), fun vl e m => R.nl vl e (h _ m), R.obj.sub h, R.all, R.nd, R.lt⟩
theorem conO.inst {H : Hp} {S : List Addr} {c : Addr} {con : Con} (h : conO H S c con) : ∃ C dx, H c = some (.inst C dx) ∧ C ∈ consC := by
  cases con with
  | mx i ks => obtain ⟨a, b, x, d, _⟩ := h; exact ⟨_, x, d, by decide⟩
  | mn i ks => obtain ⟨a, b, x, d, _⟩ := h; exact ⟨_, x, d, by decide⟩
  | sm ks => obtain ⟨a, b, x, l, d, _⟩ := h; exact ⟨_, x, d, by decide⟩

/-- a problem while it is built -/
structure PbAt (H : Hp) (vt : List Vr) (rcs : List RC) (p dx sv sdx l d C : Addr) (fb : Bool) : Prop where
  pr : ∃ ep, ProbAt H p dx sv l d (rcs.map fun r => .ref r.z) (tab vt) ep
  ap : vt.Pairwise Apart
  doms : Doms H vt sgI
  raw : ∀ r ∈ rcs, RawS H (l :: dynOf vt) vt r
  ndc : (rcs.map (·.c)).Nodup
  nl : l ∉ dynOf vt
  hC : C ∈ svC
  g1 : H sv = some (.inst C sdx)
  g2 : H sdx = some (.ns [("_forwardcheck", .bool fb)])
  n5 : sv ≠ 347

section
variable {prog : Program} {w : World} {n : Nat} {H0 H H' : Hp} {vt : List Vr} {rcs : List RC} {p dx sv sdx l d C : Addr} {fb : Bool}

theorem PbAt.out (P : PbAt H vt rcs p dx sv sdx l d C fb) {a : Addr} {o : AO} (h : H a = some o) (h1 : ∀ c x xs, o ≠ .dom c x xs) (h2 : ∀ xs, o ≠ .list xs) : a ∉ l :: dynOf vt := fun m => by
  obtain ⟨ep, Pr⟩ := P.pr
  rcases List.mem_cons.mp m with rfl | m
  · have := Pr.lst; rw [h] at this; injection this with this; exact h2 _ this
  · rcases dyn_type P.doms m with ⟨x, xs, e⟩ | ⟨xs, e⟩ <;> (rw [h] at e; injection e with e)
    · exact h1 _ _ _ e
    · exact h2 _ e
theorem PbAt.known (P : PbAt H vt rcs p dx sv sdx l d C fb) : ∀ a ∈ l :: dynOf vt, H a ≠ none := fun a m => by
  obtain ⟨ep, Pr⟩ := P.pr
  rcases List.mem_cons.mp m with rfl | m
  · rw [Pr.lst]; simp
  · exact P.doms.known a m
theorem PbAt.chg0 (P : PbAt H vt rcs p dx sv sdx l d C fb) (c : Chg [] H H') : PbAt H' vt rcs p dx sv sdx l d C fb where
  pr := by
    obtain ⟨ep, Pr⟩ := P.pr
    exact ⟨ep, c _ _ Pr.inst (by simp), c _ _ Pr.ns (by simp), c _ _ Pr.lst (by simp), c _ _ Pr.dct (by simp), Pr.ne⟩
  ap := P.ap
  doms := P.doms.chg0 c
  raw r hr := (P.raw r hr).chg (c.mono (by simp))
  ndc := P.ndc
  nl := P.nl
  hC := P.hC
  g1 := c _ _ P.g1 (by simp)
  g2 := c _ _ P.g2 (by simp)
  n5 := P.n5
theorem PbAt.add (P : PbAt H vt rcs p dx sv sdx l d C fb) {z c : Addr} {ov : Option Addr} {con : Con} (ch : Chg [l] H H') (fz : Fresh H z) (h1 : H' z = some (.tuple [.ref c, (RC.mk z c ov con).vars])) (h2 : H' l = some (.list ((rcs.map fun r => AV.ref r.z) ++ [.ref z])))
    (hO : conO H (l :: dynOf vt) c con) (hn : c ∉ rcs.map (·.c)) (hv : ∀ vl, ov = some vl → H vl = some (.list (con.ks.map fun (k : Nat) => AV.int (k : Int))) ∧ con.ks ≠ [] ∧ vl ∉ l :: dynOf vt)
    (hall : ov = none → con.ks = List.range vt.length) (hnd : con.ks.Nodup) (hlt : ∀ k ∈ con.ks, k < vt.length) : PbAt H' vt (rcs ++ [⟨z, c, ov, con⟩]) p dx sv sdx l d C fb where
  pr := by
    obtain ⟨ep, Pr⟩ := P.pr
    have nn : ∀ {a o}, H a = some o → (∀ xs, o ≠ .list xs) → a ∉ [l] := fun h hn m => by
      obtain rfl := List.mem_singleton.mp m
      have := Pr.lst; rw [h] at this; injection this with this; exact hn _ this
    exact ⟨ep, ch _ _ Pr.inst (nn Pr.inst (by simp)), ch _ _ Pr.ns (nn Pr.ns (by simp)), by rw [h2]; simp, ch _ _ Pr.dct (nn Pr.dct (by simp)), Pr.ne⟩
  ap := P.ap
  doms i v hi := by
    obtain ⟨ep, Pr⟩ := P.pr
    obtain ⟨d1, d2, d3⟩ := dyn_mem hi
    have V := P.doms i v hi
    have nx : v.dx ≠ l := fun e => by have := V.ns; rw [e, Pr.lst] at this; cases this
    exact DomAt.chg V ch (by simp; rintro rfl; exact P.nl d1) (by simpa using nx) (by simp; rintro rfl; exact P.nl d2) (by simp; rintro rfl; exact P.nl d3)
  raw r hr := by
    have cS : Chg (l :: dynOf vt) H H' := ch.mono (by simp)
    rcases List.mem_append.mp hr with hr | hr
    · exact (P.raw r hr).chg cS
    · obtain rfl := List.mem_singleton.mp hr
      refine ⟨⟨h1, fun vl e => ⟨cS _ _ (hv vl e).1 (hv vl e).2.2, (hv vl e).2.1⟩⟩, fun m => P.known _ m fz.1, fun vl e => (hv vl e).2.2, hO.chg cS, hall, hnd, hlt⟩
  ndc := by
    rw [List.map_append, List.nodup_append]
    refine ⟨P.ndc, by simp, fun x hx y hy e => ?_⟩
    simp only [List.map_cons, List.map_nil, List.mem_singleton] at hy
    subst hy
    exact hn (e ▸ hx)
  nl := P.nl
  hC := P.hC
  g1 := ch _ _ P.g1 (fun m => P.out P.g1 (by simp) (by simp) (by simp at m; simp [m]))
  g2 := ch _ _ P.g2 (fun m => P.out P.g2 (by simp) (by simp) (by simp at m; simp [m]))
  n5 := P.n5

theorem PbAt.meth (P : PbAt H vt rcs p dx sv sdx l d C fb) {nm : String} (hn : ["_solver", "_constraints", "_variables"].contains nm = false) : methOf H (.ref p) nm = (methC 110 nm).map .py := by
  obtain ⟨ep, Pr⟩ := P.pr
  rw [e_meth_inst Pr.inst Pr.ns Pr.ne]
  have : List.lookup nm [("_solver", AV.ref sv), ("_constraints", AV.ref l), ("_variables", AV.ref d)] = none := by
    simp only [List.contains_cons, List.contains_nil, Bool.or_false, Bool.or_eq_false_iff] at hn
    simp only [List.lookup, hn.1, hn.2.1, hn.2.2]
  rw [this]

theorem pb_add (P : PbAt H vt rcs p dx sv sdx l d C fb) {c vl : Addr} {con : Con} (hO : conO H (l :: dynOf vt) c con) (hn : c ∉ rcs.map (·.c)) (hz : rcs.length < 100) (hv : H vl = some (.list (con.ks.map fun (k : Nat) => AV.int (k : Int)))) (hne : con.ks ≠ []) (hvl : vl ∉ l :: dynOf vt)
    (hnd : con.ks.Nodup) (hlt : ∀ k ∈ con.ks, k < vt.length) {Q : AV → Hp → Prop} (q : ∀ H' z, Chg [l] H H' → PbAt H' vt (rcs ++ [⟨z, c, some vl, con⟩]) p dx sv sdx l d C fb → Q .none H') :
    CX prog w 1 (.ref 79) [.ref p, .ref c, .ref vl] Q H := by
  obtain ⟨ep, Pr⟩ := P.pr
  obtain ⟨K, kx, k1, k2⟩ := hO.inst
  refine cx_79 Pr k1 k2 (by simp; unfold big; omega) fun z H' fz ch h1 h2 => q H' z ch ?_
  exact P.add ch fz h1 h2 hO hn (fun vl' e => by cases e; exact ⟨hv, hne, hvl⟩) (by simp) hnd hlt
theorem pb_add' (P : PbAt H vt rcs p dx sv sdx l d C fb) {c : Addr} {con : Con} (hO : conO H (l :: dynOf vt) c con) (hn : c ∉ rcs.map (·.c)) (hz : rcs.length < 100) (hall : con.ks = List.range vt.length)
    {Q : AV → Hp → Prop} (q : ∀ H' z, Chg [l] H H' → PbAt H' vt (rcs ++ [⟨z, c, none, con⟩]) p dx sv sdx l d C fb → Q .none H') :
    CX prog w 1 (.ref 79) [.ref p, .ref c] Q H := by
  obtain ⟨ep, Pr⟩ := P.pr
  obtain ⟨K, kx, k1, k2⟩ := hO.inst
  refine cx_79' Pr k1 k2 (by simp; unfold big; omega) fun z H' fz ch h1 h2 => q H' z ch ?_
  exact P.add ch fz h1 h2 hO hn (by simp) (fun _ => hall) (by rw [hall]; exact List.nodup_range) (fun k hk => by rw [hall] at hk; simpa using hk)

/-- a problem with its variables, and no constraint yet -/
theorem pb_start {ep lv r : Addr} {m : Nat} (Pr : ProbAt H p dx sv l d [] [] ep) (hC : C ∈ svC) (g1 : H sv = some (.inst C sdx)) (g2 : H sdx = some (.ns [("_forwardcheck", .bool fb)])) (n5 : sv ≠ 347) (hl : H lv = some (.list [.int 0, .int 1])) (hr : H r = some (.range 0 m)) (hm : m < 100)
    {Q : AV → Hp → Prop} (q : ∀ vt H', vt.length = m → Chg [d] H H' → PbAt H' vt [] p dx sv sdx l d C fb → (∀ y ∈ dynOf vt, H y = none) → Q .none H') : CX prog w 4 (.ref 71) [.ref p, .ref r, .ref lv] Q H := by
  refine cx_71 Pr hl (by simp) hr hm fun vt ep' H' len c hd hv ap => ?_
  have nd : ∀ y ∈ dynOf vt, H y = none := fun y hy => by
    unfold dynOf at hy
    rw [List.mem_flatMap] at hy
    obtain ⟨v, hv', hm⟩ := hy
    obtain ⟨_, f1, f2, f3, f4⟩ := hv v hv'
    simp only [List.mem_cons, List.not_mem_nil, or_false] at hm
    rcases hm with rfl | rfl | rfl
    · exact f1.1
    · exact f3.1
    · exact f4.1
  have nn : ∀ {a o}, H a = some o → (∀ ds e, o ≠ .dict ds e) → a ∉ [d] := fun h hn m => by
    obtain rfl := List.mem_singleton.mp m
    have := Pr.dct; rw [h] at this; injection this with this; exact hn _ _ this
  refine q vt H' len c ⟨⟨ep', c _ _ Pr.inst (nn Pr.inst (by simp)), c _ _ Pr.ns (nn Pr.ns (by simp)), c _ _ Pr.lst (nn Pr.lst (by simp)), hd, Pr.ne⟩, ap, fun i v hi => ?_, by simp, by simp, fun m => ?_, hC, c _ _ g1 (nn g1 (by simp)), c _ _ g2 (nn g2 (by simp)), n5⟩ nd
  · exact (hv v (List.mem_of_getElem? hi)).1
  · have := nd l m
    rw [Pr.lst] at this; cases this

/-- the problem's answer -/
theorem pb_solve (P : PbAt H vt rcs p dx sv sdx l d C fb) (hsm : vt.length ≤ 6) (hlen : rcs.length < 100) {Q : AV → Hp → Prop}
    (qn : ∀ H', Chg (dynOf vt) H H' → (vt.length = 0 ∨ ∀ f, SolP vt.length (rcs.map (·.con)) f → False) → Q .none H')
    (qs : ∀ H' b f asg ep, Chg (dynOf vt) H H' → H' b = some (.dict asg ep) → SolP vt.length (rcs.map (·.con)) f → (∀ k, k < vt.length → look asg (k : Int) = some (.int (f k))) → Q (.ref b) H') :
    CX prog w 21 (.ref 86) [.ref p] Q H := by
  obtain ⟨ep, Pr⟩ := P.pr
  have o : ∀ {a}, a ∉ l :: dynOf vt → a ∉ dynOf vt := fun h m => h (List.mem_cons_of_mem _ m)
  exact cx_86 Pr P.ap P.doms (fun r hr => (P.raw r hr).raw fun a h => List.mem_cons_of_mem _ h) P.ndc P.nl hsm hlen (fun k hk => rfl) P.hC P.g1 P.g2 (o (P.out Pr.inst (by simp) (by simp))) (o (P.out Pr.ns (by simp) (by simp))) (o (P.out P.g1 (by simp) (by simp))) (o (P.out P.g2 (by simp) (by simp))) P.n5 qn qs
end
end Csp

namespace Csp
open PySem PySem.W PySem.Calls PyProof.Rows PySem.SeqAt Builtin Builtin.ObjectAttr

/-- an edge: its list, its two points -/
structure Ed where
  z : Addr
  a : Nat
  b : Nat
structure EdsAt (H : Hp) (el : Addr) (es : List Ed) : Prop where
  lst : H el = some (.list (es.map fun e => .ref e.z))
  row : ∀ e ∈ es, H e.z = some (.list [.int e.a, .int e.b])
theorem EdsAt.chg {H H' : Hp} {el : Addr} {es : List Ed} (E : EdsAt H el es) (c : Chg [] H H') : EdsAt H' el es := ⟨c _ _ E.lst (by simp), fun e he => c _ _ (E.row e he) (by simp)⟩
def atEd (es : List Ed) (p k : Nat) : Bool := match es[k]? with
  | some e => e.a == p || e.b == p
  | none => false
def endsOf (es : List Ed) (p : Nat) : List Nat := (List.range es.length).filter (atEd es p)
def consP (es : List Ed) (p : Nat) : List Con := if endsOf es p = [] then [] else [.mx 1 (endsOf es p)]
def consE (es : List Ed) (n : Int) : List Con := (List.range 6).flatMap (consP es) ++ [.mn n (List.range es.length)]

def tEnds : EL := .cons (.cmp .In (.loc "point") (.idx (.loc "edges") (.loc "k"))) .nil
def body480 : SL := .cons (.assign "ends" (.comp (.loc "k") "k" (.bi .range (.cons (.bi .len (.cons (.loc "edges") .nil)) .nil)) tEnds)) (.cons (.ife (.cmp .NotEq (.loc "ends") (.list .nil)) (.cons (.expr (.meth (.loc "problem") "addConstraint" (.cons (.call (.lit (.ref 410)) (.cons (.lit (.int 1)) .nil)) (.cons (.loc "ends") .nil)))) .nil) .nil) .nil)
def end480 : SL := .cons (.expr (.meth (.loc "problem") "addConstraint" (.cons (.call (.lit (.ref 438)) (.cons (.loc "n") .nil)) .nil))) (.cons (.ret (.meth (.loc "problem") "getSolution" .nil)) .nil)
theorem b480_eq : b480 = .cons (.assign "problem" (.call (.lit (.ref 110)) (.cons (.loc "solver") .nil))) (.cons (.expr (.meth (.loc "problem") "addVariables" (.cons (.bi .range (.cons (.bi .len (.cons (.loc "edges") .nil)) .nil)) (.cons (.list (.cons (.lit (.int 0)) (.cons (.lit (.int 1)) .nil))) .nil)))) (.cons (.for1 ["point"] (.bi .range (.cons (.lit (.int 6)) .nil)) body480 .nil) end480)) := rfl

section
variable {prog : Program} {w : World} {n : Nat} {H0 Hs Hb H H' : Hp} {vt : List Vr} {rcs : List RC} {p dx sv sdx l d C el : Addr} {fb : Bool} {es : List Ed}

theorem loopEnds {rg acc : Addr} {pt : Nat} {m : Loc} {fin : Hp → Prop} {xs0 : List AV} (hsrc : ∀ H', Chg [acc] Hb H' → sameSrc H0 H' (.ref rg)) (E : EdsAt Hb el es) (na : el ≠ acc ∧ ∀ e ∈ es, e.z ≠ acc) (hz : es.length < 100)
    (s1 : m "point" = some (.int (pt : Int))) (s2 : m "edges" = some (.ref el)) :
    ∀ (r i : Nat) (ys : List Nat) (H : Hp), i + r = es.length → ys.length ≤ i → Chg [acc] Hb H → H acc = some (.list (ys.map fun (k : Nat) => AV.int (k : Int))) →
      (∀ H', Chg [acc] Hb H' → H' acc = some (.list ((ys ++ (List.range' i r).filter (atEd es pt)).map fun (k : Nat) => AV.int (k : Int))) → fin H') →
      compL (fun H' => sameSrc H0 H' (.ref rg)) (fun y => (semX (CX prog w n) (upL m "k" y) (.loc "k")).v) (fun y => semTs (CX prog w n) (upL m "k" y) tEnds) acc fin ((List.range' i r).map fun (k : Nat) => AV.int (k : Int)) H := by
  intro r
  induction r with
  | zero =>
    intro i ys H hi hy c ha q
    exact ⟨hsrc H c, q H c (by simpa using ha)⟩
  | succ r ih =>
    intro i ys H hi hy c ha q
    rw [List.range'_succ, List.map_cons, compL]
    refine ⟨hsrc H c, ?_⟩
    have lt : i < es.length := by omega
    obtain ⟨e, he⟩ : ∃ e, es[i]? = some e := ⟨_, List.getElem?_eq_getElem lt⟩
    have hm : e ∈ es := List.mem_of_getElem? he
    have h1 := c _ _ E.lst (by simpa using na.1)
    have h2 := c _ _ (E.row e hm) (by simpa using na.2 e hm)
    have t1 : (upL m "k" (.int (i : Int))) "point" = some (.int (pt : Int)) := by simp [upL, s1]
    have t2 : (upL m "k" (.int (i : Int))) "edges" = some (.ref el) := by simp [upL, s2]
    have t3 : (upL m "k" (.int (i : Int))) "k" = some (.int (i : Int)) := by simp [upL]
    have hat : atEd es pt i = (e.a == pt || e.b == pt) := by simp only [atEd, he]
    have hidx : ∀ R : AV → Hp → Prop, getP (es.map fun e => AV.ref e.z) (i : Int) R H = R (.ref e.z) H := fun R => by
      simp only [getP, Int.natCast_nonneg, if_true, Int.toNat_natCast, List.getElem?_map, he, Option.map]
    simp only [tEnds, semTs, semX, VT.of, t1, t2, t3, e_idx_list h1, hidx, cmpP, e_in_list h2]
    refine ⟨by omega, by simp [AV.isInt], ?_⟩
    have hany : ([AV.int (e.a : Int), AV.int (e.b : Int)].any fun x => x.num == (pt : Int)) = atEd es pt i := by
      rw [hat]
      simp only [List.any_cons, List.any_nil, Bool.or_false, AV.num]
      have q : ∀ x y : Nat, ((x : Int) == (y : Int)) = (x == y) := fun x y => by
        rw [Bool.eq_iff_iff, beq_iff_eq, beq_iff_eq]
        omega
      rw [q, q]
    simp only [hany]
    cases hb : atEd es pt i with
    | true =>
      simp only [if_true, ha]
      refine ⟨by simp; unfold big; omega, ?_⟩
      have c1 : Chg [acc] Hb (upd H acc (.list ((ys.map fun (k : Nat) => AV.int (k : Int)) ++ [.int (i : Int)]))) := c.upd (by simp)
      exact ih (i + 1) (ys ++ [i]) _ (by omega) (by simp; omega) c1 (by rw [upd_at]; simp) fun H' c' h' => q H' c' (by rw [h', List.range'_succ, List.filter_cons_of_pos hb]; simp)
    | false =>
      simp only [Bool.false_eq_true, if_false]
      exact ih (i + 1) ys H (by omega) (by omega) c ha fun H' c' h' => q H' c' (by rw [h', List.range'_succ, List.filter_cons_of_neg (by simp [hb])])
end
end Csp

namespace Csp
open PySem PySem.W PySem.Calls PyProof.Rows PySem.SeqAt Builtin Builtin.ObjectAttr

theorem atEd_lt {es : List Ed} {p k : Nat} (h : k ∈ endsOf es p) : k < es.length := by
  have := (List.mem_filter.mp h).1
  simpa using this
theorem ends_nodup (es : List Ed) (p : Nat) : (endsOf es p).Nodup := List.Nodup.sublist List.filter_sublist List.nodup_range
theorem conO_new {H : Hp} {S : List Addr} (kn : ∀ a ∈ S, H a ≠ none) {x cdx : Addr} {i : Int} {ks : List Nat} {H0 : Hp} (f : Fresh H0 x) (c : ∀ a ∈ S, H0 a ≠ none) (h1 : H x = some (.inst 410 cdx)) (h2 : H cdx = some (.ns [("_maxsum", .int i), ("_multipliers", .none)])) (nx : cdx ∉ S) : conO H S x (.mx i ks) :=
  ⟨fun m => c x m f.1, f.2, cdx, h1, nx, h2⟩

section
variable {prog : Program} {w : World} {n : Nat} {H0 Hs Hb H H' : Hp} {vt : List Vr} {rcs : List RC} {p dx sv sdx l d C el : Addr} {fb : Bool} {es : List Ed}

theorem PbAt.newc (P : PbAt H vt rcs p dx sv sdx l d C fb) {x : Addr} (f : Fresh H x) : x ∉ l :: dynOf vt ∧ x ∉ rcs.map (·.c) := by
  refine ⟨fun m => P.known x m f.1, fun m => ?_⟩
  obtain ⟨r, hr, rfl⟩ := List.mem_map.mp m
  obtain ⟨K, kx, h, _⟩ := (P.raw r hr).obj.inst
  rw [f.1] at h; cases h

theorem step480 (hn : 2 ≤ n) {m : Loc} {pt : Nat} (P : PbAt H vt rcs p dx sv sdx l d C fb) (E : EdsAt H el es) (hz : es.length < 100) (hr : rcs.length < 50) (hvt : vt.length = es.length) (nl : el ≠ l ∧ ∀ e ∈ es, e.z ≠ l)
    (s0 : m ".0" = none) (s1 : m "point" = some (.int (pt : Int))) (s2 : m "edges" = some (.ref el)) (s3 : m "problem" = some (.ref p)) {K : Fl → Loc → Hp → Prop}
    (hK : ∀ m2 H2 rcs2, (∀ y, y ≠ "ends" → m2 y = m y) → Chg [l] H H2 → PbAt H2 vt rcs2 p dx sv sdx l d C fb → rcs2.map (·.con) = rcs.map (·.con) ++ consP es pt → rcs2.length ≤ rcs.length + 1 → K .next m2 H2) :
    semSL (CX prog w n) body480 K m H := by
  rw [body480, semSL.eq_2, semS]
  simp only [semX, semL, VT.of, s2, biP, lenP, E.lst, List.length_map, rangeP, newP]
  refine ⟨by omega, fun rg fr => ?_⟩
  have c1 : Chg [] H (upd H rg (.range 0 (es.length : Int))) := (Chg.refl _ _).new fr
  have h1 : (upd H rg (.range 0 (es.length : Int))) rg = some (.range 0 (es.length : Int)) := upd_at
  generalize upd H rg (.range 0 (es.length : Int)) = H1 at c1 h1 ⊢
  simp only [e_items_range h1, range_items]
  refine ⟨s0, fun acc fa => ?_⟩
  have c2 : Chg [] H1 (upd H1 acc (.list [])) := (Chg.refl _ _).new fa
  have h2 : (upd H1 acc (.list [])) acc = some (.list []) := upd_at
  generalize upd H1 acc (.list []) = H2 at c2 h2 ⊢
  have E2 := (E.chg c1).chg c2
  have ra : rg ≠ acc := fa.ne h1
  have ea : el ≠ acc ∧ ∀ e ∈ es, e.z ≠ acc := ⟨fa.ne (E.chg c1).lst, fun e he => fa.ne ((E.chg c1).row e he)⟩
  have accH : H acc = none := (fa.back c1).1
  have r2 := c2 _ _ h1 (by simp)
  refine loopEnds (prog := prog) (w := w) (n := n) (H0 := H1) (Hb := H2) (es := es) (el := el) (xs0 := []) (fun H' c => by simp only [sameSrc, h1, c _ _ r2 (by simpa using ra), and_self]) E2 ea hz s1 s2 es.length 0 [] H2 (by simp) (by simp) (Chg.refl _ _) (by simpa using h2) fun H3 c3 h3 => ?_
  have h3 : H3 acc = some (.list ((endsOf es pt).map fun (k : Nat) => AV.int (k : Int))) := by
    rw [h3, List.nil_append, ← List.range_eq_range']; rfl
  have c03 : Chg [] H H3 := fun a x e _ => c3 a x (c2 a x (c1 a x e (by simp)) (by simp)) (by simp; rintro rfl; rw [accH] at e; cases e)
  have P3 := P.chg0 c03
  generalize hm1 : upL m "ends" (.ref acc) = m1
  have t0 : ∀ y, y ≠ "ends" → m1 y = m y := fun y ny => by rw [← hm1]; simp [upL, ny]
  have t1 : m1 "ends" = some (.ref acc) := by rw [← hm1]; simp [upL]
  have t3 := (t0 "problem" (by decide)).trans s3
  rw [semSL.eq_2, semS]
  simp only [semX, semL, VT.of, t1, newP]
  refine ⟨by simp, fun z fz => ?_⟩
  have c4 : Chg [] H3 (upd H3 z (.list [])) := (Chg.refl _ _).new fz
  have h4 : (upd H3 z (.list [])) z = some (.list []) := upd_at
  generalize upd H3 z (.list []) = H4 at c4 h4 ⊢
  have h3' := c4 _ _ h3 (by simp)
  have P4 := P3.chg0 c4
  have accK : acc ∉ l :: dynOf vt := fun m => P.known _ m accH
  simp only [cmpP, eqP, h3', h4, AV.isBool]
  refine ⟨trivial, trivial, ?_⟩
  by_cases he : endsOf es pt = []
  · have : ((endsOf es pt).map fun (k : Nat) => AV.int (k : Int)).isEmpty = true := by rw [he]; rfl
    simp only [this, Bool.not_true, Bool.false_eq_true, if_false, semSL.eq_1]
    exact hK m1 H4 rcs t0 ((c03.trans c4).mono (by simp)) P4 (by simp [consP, he]) (by omega)
  · have : ((endsOf es pt).map fun (k : Nat) => AV.int (k : Int)).isEmpty = false := by
      cases h : endsOf es pt with
      | nil => exact absurd h he
      | cons _ _ => rfl
    simp only [this, Bool.not_false, if_true]
    have mm : methOf H4 (.ref p) "addConstraint" = some (.py 79) := by rw [P4.meth (by decide)]; rfl
    rw [semSL.eq_2, semS]
    simp only [semX, semL, VT.of, t1, t3, mm]
    refine ⟨Or.inl (by decide), cx_up (cx_new410 fun x cdx H5 fx c5 h5 h6 => ?_) hn⟩
    obtain ⟨x1, x2⟩ := P4.newc fx
    have P5 := P4.chg0 c5
    refine cx_up (pb_add (con := .mx 1 (endsOf es pt)) P5 ⟨x1, fx.2, cdx, h5, P5.out h6 (by simp) (by simp), h6⟩ x2 (by omega) (c5 _ _ h3' (by simp)) he accK (ends_nodup es pt) (fun k hk => by rw [hvt]; exact atEd_lt hk) fun H6 z' c6 P6 => ?_) (by omega)
    simp only [semSL.eq_1]
    exact hK m1 H6 _ t0 (((c03.trans c4).trans c5).mono (by simp) |>.trans c6) P6 (by simp [consP, he]) (by simp)

theorem loop480 (hn : 2 ≤ n) {m0 : Loc} {rg : Addr} (hsrc : ∀ H', Chg [l] H0 H' → sameSrc H0 H' (.ref rg)) (E : EdsAt Hs el es) (hz : es.length < 100) (hvt : vt.length = es.length) (c0 : Chg [] Hs H0) (hl : Hs l = none)
    (s0 : m0 ".0" = none) (s2 : m0 "edges" = some (.ref el)) (s3 : m0 "problem" = some (.ref p)) {Q : Fl → Loc → Hp → Prop}
    (q : ∀ m' H' rcs', (∀ y, y ≠ "point" → y ≠ "ends" → m' y = m0 y) → Chg [l] H0 H' → PbAt H' vt rcs' p dx sv sdx l d C fb → rcs'.map (·.con) = (List.range 6).flatMap (consP es) → rcs'.length ≤ 6 → Q .next m' H') :
    ∀ (r i : Nat) (rcs : List RC) (m : Loc) (H : Hp), i + r = 6 → (∀ y, y ≠ "point" → y ≠ "ends" → m y = m0 y) → Chg [l] H0 H → PbAt H vt rcs p dx sv sdx l d C fb → rcs.map (·.con) = (List.range i).flatMap (consP es) → rcs.length ≤ i →
      forL (fun H' => sameSrc H0 H' (.ref rg)) (fun y Q' m' H' => bindT ["point"] y (fun m'' => semSL (CX prog w n) body480 Q' m'') m' H') (semSL (CX prog w n) .nil) Q ((List.range' i r).map fun (k : Nat) => AV.int (k : Int)) m H := by
  have nl : el ≠ l ∧ ∀ e ∈ es, e.z ≠ l := by
    refine ⟨fun h => ?_, fun e he h => ?_⟩
    · have := E.lst; rw [h, hl] at this; cases this
    · have := E.row e he; rw [h, hl] at this; cases this
  intro r
  induction r with
  | zero =>
    intro i rcs m H hi k1 c P hc hr
    obtain rfl : i = 6 := by omega
    exact ⟨hsrc H c, by simp only [semSL.eq_1]; exact q m H rcs k1 c P hc hr⟩
  | succ r ih =>
    intro i rcs m H hi k1 c P hc hr
    rw [List.range'_succ, List.map_cons, forL]
    refine ⟨hsrc H c, ?_⟩
    have t0 : ∀ y, y ≠ "point" → y ≠ "ends" → (upL m "point" (.int (i : Int))) y = m0 y := fun y n1 n2 => by rw [← k1 y n1 n2]; simp [upL, n1]
    have t1 : (upL m "point" (.int (i : Int))) "point" = some (.int (i : Int)) := by simp [upL]
    have EH := E.chg (c0.low c (by simpa using hl))
    simp only [bindT]
    refine step480 hn P EH hz (by omega) hvt nl ((t0 _ (by decide) (by decide)).trans s0) t1 ((t0 _ (by decide) (by decide)).trans s2) ((t0 _ (by decide) (by decide)).trans s3) fun m2 H2 rcs2 k2 c2 P2 h2 hl2 => ?_
    exact ih (i + 1) rcs2 m2 H2 (by omega) (fun y n1 n2 => (k2 y n2).trans (t0 y n1 n2)) (c.trans c2) P2 (by rw [h2, hc, List.range_succ, List.flatMap_append]; simp) (by omega)
end
end Csp

namespace Csp
open PySem PySem.W PySem.Calls PyProof.Rows PySem.SeqAt Builtin Builtin.ObjectAttr

section
variable {prog : Program} {w : World} {n : Nat} {H0 Hs Hb H H' : Hp} {vt : List Vr} {rcs : List RC} {p dx sv sdx l d C el : Addr} {fb : Bool} {es : List Ed}

theorem cx_480 {nn : Int} (hC : C ∈ svC) (g1 : H sv = some (.inst C sdx)) (g2 : H sdx = some (.ns [("_forwardcheck", .bool fb)])) (n5 : sv ≠ 347) (E : EdsAt H el es) (hz : es.length ≤ 6) {Q : AV → Hp → Prop}
    (qn : ∀ H', Chg [] H H' → (es.length = 0 ∨ ∀ f, SolP es.length (consE es nn) f → False) → Q .none H')
    (qs : ∀ H' b f asg ep, Chg [] H H' → H' b = some (.dict asg ep) → SolP es.length (consE es nn) f → (∀ k, k < es.length → look asg (k : Int) = some (.int (f k))) → Q (.ref b) H') :
    CX prog w 22 (.ref 480) [.ref sv, .ref el, .int nn] Q H := by
  refine cx_fn (n := 21) (ok480 w) (locOf [("solver", .ref sv), ("edges", .ref el), ("n", .int nn)]) (fun vv e => ?_) ?_
  · obtain ⟨x, y, z, rfl, e1, e2, e3⟩ := args3 e
    exact ⟨_, bind_480 w x y z, by simp only [List.map, e1, e2, e3]⟩
  have l1 : locOf [("solver", .ref sv), ("edges", .ref el), ("n", .int nn)] "solver" = some (.ref sv) := rfl
  have l2 : locOf [("solver", .ref sv), ("edges", .ref el), ("n", .int nn)] "edges" = some (.ref el) := rfl
  have l3 : locOf [("solver", .ref sv), ("edges", .ref el), ("n", .int nn)] "n" = some (.int nn) := rfl
  have l0 : locOf [("solver", .ref sv), ("edges", .ref el), ("n", .int nn)] ".0" = none := rfl
  generalize locOf [("solver", .ref sv), ("edges", .ref el), ("n", .int nn)] = m0 at l0 l1 l2 l3 ⊢
  have hT : C ∈ truthyC := hC
  rw [b480_eq, semSL.eq_2, semS]
  simp only [semX, semL, VT.of, l1]
  refine ⟨Or.inl (by decide), cx_up (cx_new110 g1 hT fun p dx l d ep H1 fp c1 p1 p2 p3 p4 fl fd => ?_) (by decide)⟩
  have Pr : ProbAt H1 p dx sv l d [] [] ep := ⟨p1, p2, p3, p4, fp.2⟩
  generalize hm1 : upL m0 "problem" (.ref p) = m1
  have t0 : ∀ y, y ≠ "problem" → m1 y = m0 y := fun y ny => by rw [← hm1]; simp [upL, ny]
  have t1 : m1 "problem" = some (.ref p) := by rw [← hm1]; simp [upL]
  have t2 := (t0 "edges" (by decide)).trans l2
  have t3 := (t0 "n" (by decide)).trans l3
  have t4 := (t0 ".0" (by decide)).trans l0
  have mm : methOf H1 (.ref p) "addVariables" = some (.py 71) := by rw [e_meth_inst p1 p2 fp.2]; rfl
  have E1 := E.chg c1
  rw [semSL.eq_2, semS]
  simp only [semX, semL, VT.of, t1, t2, mm, biP, lenP, E1.lst, List.length_map, rangeP, newP]
  refine ⟨by omega, fun rg fr => ⟨by simp, fun lv flv => ?_⟩⟩
  have c2 : Chg [] H1 (upd (upd H1 rg (.range 0 (es.length : Int))) lv (.list [.int 0, .int 1])) := ((Chg.refl [] H1).new fr).new flv
  have h2 : (upd (upd H1 rg (.range 0 (es.length : Int))) lv (.list [.int 0, .int 1])) lv = some (.list [.int 0, .int 1]) := upd_at
  have h3 : (upd (upd H1 rg (.range 0 (es.length : Int))) lv (.list [.int 0, .int 1])) rg = some (.range 0 (es.length : Int)) := upd_keep flv upd_at
  generalize upd (upd H1 rg (.range 0 (es.length : Int))) lv (.list [.int 0, .int 1]) = H2 at c2 h2 h3 ⊢
  have Pr2 : ProbAt H2 p dx sv l d [] [] ep := ⟨c2 _ _ Pr.inst (by simp), c2 _ _ Pr.ns (by simp), c2 _ _ Pr.lst (by simp), c2 _ _ Pr.dct (by simp), Pr.ne⟩
  have c02 := c1.trans c2
  refine cx_up (pb_start (m := es.length) Pr2 hC (c02 _ _ g1 (by simp)) (c02 _ _ g2 (by simp)) n5 h2 h3 (by omega) fun vt H3 len c3 P3 dn => ?_) (by decide)
  have dnH : ∀ y ∈ l :: dynOf vt, H y = none := fun y hy => by
    rcases List.mem_cons.mp hy with rfl | hy
    · exact fl.1
    · cases e : H y with
      | none => rfl
      | some x => have := dn y hy; rw [c02 _ _ e (by simp)] at this; cases this
  have c03 : Chg [] H H3 := c02.low c3 (by simpa using fd.1)
  rw [semSL.eq_2, semS]
  simp only [semX, semL, VT.of, biP, rangeP, newP]
  refine ⟨by decide, fun r6 f6 => ?_⟩
  have c4 : Chg [] H3 (upd H3 r6 (.range 0 6)) := (Chg.refl _ _).new f6
  have h4 : (upd H3 r6 (.range 0 6)) r6 = some (.range 0 6) := upd_at
  generalize upd H3 r6 (.range 0 6) = H4 at c4 h4 ⊢
  have P4 := P3.chg0 c4
  have c04 := c03.trans c4
  simp only [e_items_range h4]
  have r6l : r6 ≠ l := fun e => by
    obtain ⟨_, Pr4⟩ := P4.pr
    have := Pr4.lst; rw [← e, h4] at this; cases this
  have items : (List.range ((6 : Int) - 0).toNat).map (fun (k : Nat) => AV.int (0 + (k : Int))) = (List.range' 0 6).map fun (k : Nat) => AV.int (k : Int) := range_items 6
  rw [items]
  refine loop480 (prog := prog) (w := w) (n := 21) (H0 := H4) (Hs := H) (rg := r6) (el := el) (es := es) (by decide) (fun H' c => by simp only [sameSrc, h4, c _ _ h4 (by simpa using r6l), and_self]) E (by omega) len c04 fl.1 t4 t2 t1 (fun m5 H5 rcs k5 c5 P5 hc hr => ?_) 6 0 [] m1 H4 (by simp) (fun _ _ _ => rfl) (Chg.refl _ _) P4 (by simp) (by simp)
  have c05 : Chg [] H H5 := c04.low c5 (by simpa using fl.1)
  have u1 := (k5 "problem" (by decide) (by decide)).trans t1
  have u2 := (k5 "n" (by decide) (by decide)).trans t3
  show semSL (CX prog w 21) end480 _ m5 H5
  have mm5 : methOf H5 (.ref p) "addConstraint" = some (.py 79) := by rw [P5.meth (by decide)]; rfl
  rw [end480, semSL.eq_2, semS]
  simp only [semX, semL, VT.of, u1, u2, mm5]
  refine ⟨Or.inl (by decide), cx_up (cx_new438 fun x cdx H6 fx c6 h5 h6 => ?_) (by decide)⟩
  obtain ⟨x1, x2⟩ := P5.newc fx
  have P6 := P5.chg0 c6
  refine cx_up (pb_add' (con := .mn nn (List.range es.length)) P6 ⟨x1, fx.2, cdx, h5, P6.out h6 (by simp) (by simp), h6⟩ x2 (by omega) (by rw [len]; rfl) fun H7 z c7 P7 => ?_) (by decide)
  have c07 : Chg [] H H7 := (c05.trans c6).low c7 (by simpa using fl.1)
  have mm7 : methOf H7 (.ref p) "getSolution" = some (.py 86) := by rw [P7.meth (by decide)]; rfl
  have hcs : (rcs ++ [(⟨z, x, none, .mn nn (List.range es.length)⟩ : RC)]).map (·.con) = consE es nn := by
    rw [List.map_append, hc]; rfl
  rw [semSL.eq_2, semS]
  simp only [semX, semL, VT.of, u1, mm7]
  refine pb_solve P7 (by omega) (by simp; omega) (fun H8 c8 no => ?_) fun H8 b f asg ep c8 a1 a2 a3 => ?_
  · rw [hcs, len] at no
    simp only [retOf]
    exact qn H8 (c07.low c8 fun y hy => dnH y (by simp [hy])) no
  · rw [hcs, len] at a2
    simp only [retOf]
    exact qs H8 b f asg ep (c07.low c8 fun y hy => dnH y (by simp [hy])) a1 a2 (by rw [len] at a3; exact a3)
end
end Csp

namespace Csp
open PySem PySem.W PySem.Calls PyProof.Rows PySem.SeqAt Builtin Builtin.ObjectAttr

def conE (kd : Int) (e : Ed) : Con := if kd = 0 then .mn 1 [e.a, e.b] else .sm [e.a, e.b]
def consN (es : List Ed) (kd n : Int) : List Con := es.map (conE kd) ++ [.mx (n - 1) (List.range 6)]
theorem conE_ks (kd : Int) (e : Ed) : (conE kd e).ks = [e.a, e.b] := by unfold conE; split <;> rfl

def body487 : SL := .cons (.expr (.meth (.loc "problem") "addConstraint" (.cons (.ite (.loc "kind") (.call (.lit (.ref 466)) (.cons (.list (.cons (.lit (.int 1)) .nil)) .nil)) (.call (.lit (.ref 438)) (.cons (.lit (.int 1)) .nil))) (.cons (.bi .list (.cons (.loc "edge") .nil)) .nil)))) .nil
def end487 : SL := .cons (.expr (.meth (.loc "problem") "addConstraint" (.cons (.call (.lit (.ref 410)) (.cons (.bin .Sub (.loc "n") (.lit (.int 1))) .nil)) .nil))) (.cons (.ret (.meth (.loc "problem") "getSolution" .nil)) .nil)
theorem b487_eq : b487 = .cons (.assign "problem" (.call (.lit (.ref 110)) (.cons (.loc "solver") .nil))) (.cons (.expr (.meth (.loc "problem") "addVariables" (.cons (.bi .range (.cons (.lit (.int 6)) .nil)) (.cons (.list (.cons (.lit (.int 0)) (.cons (.lit (.int 1)) .nil))) .nil)))) (.cons (.for1 ["edge"] (.loc "edges") body487 .nil) end487)) := rfl

section
variable {prog : Program} {w : World} {n : Nat} {H0 Hs Hb H H' : Hp} {vt : List Vr} {rcs : List RC} {p dx sv sdx l d C el : Addr} {fb : Bool} {es : List Ed}

theorem step487 (hn : 2 ≤ n) {m : Loc} {e : Ed} {kd : Int} (P : PbAt H vt rcs p dx sv sdx l d C fb) (hr : rcs.length < 50) (hvt : vt.length = 6) (hrow : H e.z = some (.list [.int e.a, .int e.b])) (he : e.a < 6 ∧ e.b < 6 ∧ e.a ≠ e.b)
    (s1 : m "edge" = some (.ref e.z)) (s2 : m "kind" = some (.int kd)) (s3 : m "problem" = some (.ref p)) {K : Fl → Loc → Hp → Prop}
    (hK : ∀ H2 z c vl, Chg [l] H H2 → PbAt H2 vt (rcs ++ [⟨z, c, some vl, conE kd e⟩]) p dx sv sdx l d C fb → K .next m H2) :
    semSL (CX prog w n) body487 K m H := by
  have mm : methOf H (.ref p) "addConstraint" = some (.py 79) := by rw [P.meth (by decide)]; rfl
  have fin : ∀ (x : Addr) (H1 : Hp), Chg [] H H1 → conO H1 (l :: dynOf vt) x (conE kd e) → x ∉ rcs.map (·.c) →
      listP (.ref e.z) (fun v H2 => CX prog w n (.ref 79) [.ref p, .ref x, v] (fun _ H3 => semSL (CX prog w n) .nil K m H3) H2) H1 := by
    intro x H1 c1 hO hx
    have r1 := c1 _ _ hrow (by simp)
    simp only [listP, r1, newP]
    intro vl fv
    have c2 : Chg [] H1 (upd H1 vl (.list [.int e.a, .int e.b])) := (Chg.refl _ _).new fv
    have h2 : (upd H1 vl (.list [.int e.a, .int e.b])) vl = some (.list [.int e.a, .int e.b]) := upd_at
    generalize upd H1 vl (.list [.int e.a, .int e.b]) = H2 at c2 h2 ⊢
    have P1 := P.chg0 c1
    have P2 := P1.chg0 c2
    refine cx_up (pb_add P2 (hO.chg (c2.mono (by simp))) hx (by omega) (by rw [conE_ks]; exact h2) (by rw [conE_ks]; simp) (fun m => P1.known _ m fv.1) (by rw [conE_ks]; simp [he.2.2]) (by rw [conE_ks, hvt]; simp; exact ⟨he.1, he.2.1⟩) fun H3 z c3 P3 => ?_) (by omega)
    simp only [semSL.eq_1]
    exact hK H3 z x vl (((c1.trans c2).mono (by simp)).trans c3) P3
  rw [body487, semSL.eq_2, semS]
  simp only [semX, semL, VT.of, s1, s2, s3, mm, truthP, biP]
  by_cases hk : kd = 0
  · subst hk
    simp only [bne_self_eq_false, Bool.false_eq_true, if_false]
    refine ⟨Or.inl (by decide), cx_up (cx_new438 fun x cdx H1 fx c1 h1 h2 => ?_) hn⟩
    obtain ⟨x1, x2⟩ := P.newc fx
    have P1 := P.chg0 c1
    exact fin x H1 c1 (show conO H1 _ x (.mn 1 [e.a, e.b]) from ⟨x1, fx.2, cdx, h1, P1.out h2 (by simp) (by simp), h2⟩) x2
  · have hb : (kd != 0) = true := by simpa using hk
    simp only [hb, if_true, newP]
    refine ⟨by simp, fun li fli => ⟨Or.inl (by decide), cx_up (cx_new466 fun x cdx H1 fx c1 h1 h2 => ?_) hn⟩⟩
    have c0 : Chg [] H (upd H li (.list [.int 1])) := (Chg.refl _ _).new fli
    have hli := c1 _ _ (upd_at (H := H) (a := li) (x := .list [.int 1])) (by simp)
    have P0 := P.chg0 c0
    obtain ⟨x1, x2⟩ := P0.newc fx
    have P1 := P0.chg0 c1
    have : conE kd e = .sm [e.a, e.b] := by unfold conE; rw [if_neg hk]
    exact fin x H1 (c0.trans c1) (by rw [this]; exact ⟨x1, fx.2, cdx, li, h1, P1.out h2 (by simp) (by simp), h2, fun m => P.known _ m fli.1, hli⟩) x2

theorem loop487 (hn : 2 ≤ n) {m0 : Loc} {kd : Int} (E : EdsAt Hs el es) (he : ∀ e ∈ es, e.a < 6 ∧ e.b < 6 ∧ e.a ≠ e.b) (hz : es.length ≤ 6) (hvt : vt.length = 6) (c0 : Chg [] Hs H0) (hl : Hs l = none)
    (s2 : m0 "kind" = some (.int kd)) (s3 : m0 "problem" = some (.ref p)) {Q : Fl → Loc → Hp → Prop}
    (q : ∀ m' H' rcs', (∀ y, y ≠ "edge" → m' y = m0 y) → Chg [l] H0 H' → PbAt H' vt rcs' p dx sv sdx l d C fb → rcs'.map (·.con) = es.map (conE kd) → Q .next m' H') :
    ∀ (rest dn : List Ed) (rcs : List RC) (m : Loc) (H : Hp), dn ++ rest = es → (∀ y, y ≠ "edge" → m y = m0 y) → Chg [l] H0 H → PbAt H vt rcs p dx sv sdx l d C fb → rcs.map (·.con) = dn.map (conE kd) →
      forL (fun H' => sameSrc H0 H' (.ref el)) (fun y Q' m' H' => bindT ["edge"] y (fun m'' => semSL (CX prog w n) body487 Q' m'') m' H') (semSL (CX prog w n) .nil) Q (rest.map fun e => AV.ref e.z) m H := by
  have nl : el ≠ l := fun h => by have := E.lst; rw [h, hl] at this; cases this
  have h0 := c0 _ _ E.lst (by simp)
  have hsrc : ∀ H', Chg [l] H0 H' → sameSrc H0 H' (.ref el) := fun H' c => by simp only [sameSrc, h0, c _ _ h0 (by simpa using nl), and_self]
  intro rest
  induction rest with
  | nil =>
    intro dn rcs m H hd k1 c P hc
    rw [List.append_nil] at hd
    subst hd
    exact ⟨hsrc H c, by simp only [semSL.eq_1]; exact q m H rcs k1 c P hc⟩
  | cons e rest ih =>
    intro dn rcs m H hd k1 c P hc
    rw [List.map_cons, forL]
    refine ⟨hsrc H c, ?_⟩
    have hm : e ∈ es := by rw [← hd]; simp
    have t0 : ∀ y, y ≠ "edge" → (upL m "edge" (.ref e.z)) y = m0 y := fun y n1 => by rw [← k1 y n1]; simp [upL, n1]
    have t1 : (upL m "edge" (.ref e.z)) "edge" = some (.ref e.z) := by simp [upL]
    have EH := E.chg (c0.low c (by simpa using hl))
    have hlen : rcs.length < 50 := by
      have h1 := congrArg List.length hc
      have h2 := congrArg List.length hd
      simp at h1 h2; omega
    simp only [bindT]
    refine step487 hn P hlen hvt (EH.row e hm) (he e hm) t1 ((t0 _ (by decide)).trans s2) ((t0 _ (by decide)).trans s3) fun H2 z cc vl c2 P2 => ?_
    exact ih (dn ++ [e]) _ _ H2 (by rw [← hd]; simp) t0 (c.trans c2) P2 (by rw [List.map_append, hc, List.map_append]; rfl)

theorem cx_487 {nn kd : Int} (hC : C ∈ svC) (g1 : H sv = some (.inst C sdx)) (g2 : H sdx = some (.ns [("_forwardcheck", .bool fb)])) (n5 : sv ≠ 347) (E : EdsAt H el es) (he : ∀ e ∈ es, e.a < 6 ∧ e.b < 6 ∧ e.a ≠ e.b) (hz : es.length ≤ 6) {Q : AV → Hp → Prop}
    (qn : ∀ H', Chg [] H H' → (∀ f, SolP 6 (consN es kd nn) f → False) → Q .none H')
    (qs : ∀ H' b f asg ep, Chg [] H H' → H' b = some (.dict asg ep) → SolP 6 (consN es kd nn) f → (∀ k : Nat, k < 6 → look asg (k : Int) = some (.int (f k))) → Q (.ref b) H') :
    CX prog w 22 (.ref 487) [.ref sv, .ref el, .int nn, .int kd] Q H := by
  refine cx_fn (n := 21) (ok487 w) (locOf [("solver", .ref sv), ("edges", .ref el), ("n", .int nn), ("kind", .int kd)]) (fun vv e => ?_) ?_
  · obtain ⟨x, y, z, u, rfl, e1, e2, e3, e4⟩ := args4 e
    exact ⟨_, bind_487 w x y z u, by simp only [List.map, e1, e2, e3, e4]⟩
  have l1 : locOf [("solver", .ref sv), ("edges", .ref el), ("n", .int nn), ("kind", .int kd)] "solver" = some (.ref sv) := rfl
  have l2 : locOf [("solver", .ref sv), ("edges", .ref el), ("n", .int nn), ("kind", .int kd)] "edges" = some (.ref el) := rfl
  have l3 : locOf [("solver", .ref sv), ("edges", .ref el), ("n", .int nn), ("kind", .int kd)] "n" = some (.int nn) := rfl
  have l4 : locOf [("solver", .ref sv), ("edges", .ref el), ("n", .int nn), ("kind", .int kd)] "kind" = some (.int kd) := rfl
  generalize locOf [("solver", .ref sv), ("edges", .ref el), ("n", .int nn), ("kind", .int kd)] = m0 at l1 l2 l3 l4 ⊢
  have hT : C ∈ truthyC := hC
  rw [b487_eq, semSL.eq_2, semS]
  simp only [semX, semL, VT.of, l1]
  refine ⟨Or.inl (by decide), cx_up (cx_new110 g1 hT fun p dx l d ep H1 fp c1 p1 p2 p3 p4 fl fd => ?_) (by decide)⟩
  have Pr : ProbAt H1 p dx sv l d [] [] ep := ⟨p1, p2, p3, p4, fp.2⟩
  generalize hm1 : upL m0 "problem" (.ref p) = m1
  have t0 : ∀ y, y ≠ "problem" → m1 y = m0 y := fun y ny => by rw [← hm1]; simp [upL, ny]
  have t1 : m1 "problem" = some (.ref p) := by rw [← hm1]; simp [upL]
  have t2 := (t0 "edges" (by decide)).trans l2
  have t3 := (t0 "n" (by decide)).trans l3
  have t4 := (t0 "kind" (by decide)).trans l4
  have mm : methOf H1 (.ref p) "addVariables" = some (.py 71) := by rw [e_meth_inst p1 p2 fp.2]; rfl
  rw [semSL.eq_2, semS]
  simp only [semX, semL, VT.of, t1, mm, biP, rangeP, newP]
  refine ⟨by decide, fun rg fr => ⟨by simp, fun lv flv => ?_⟩⟩
  have c2 : Chg [] H1 (upd (upd H1 rg (.range 0 6)) lv (.list [.int 0, .int 1])) := ((Chg.refl [] H1).new fr).new flv
  have h2 : (upd (upd H1 rg (.range 0 6)) lv (.list [.int 0, .int 1])) lv = some (.list [.int 0, .int 1]) := upd_at
  have h3 : (upd (upd H1 rg (.range 0 6)) lv (.list [.int 0, .int 1])) rg = some (.range 0 6) := upd_keep flv upd_at
  generalize upd (upd H1 rg (.range 0 6)) lv (.list [.int 0, .int 1]) = H2 at c2 h2 h3 ⊢
  have Pr2 : ProbAt H2 p dx sv l d [] [] ep := ⟨c2 _ _ Pr.inst (by simp), c2 _ _ Pr.ns (by simp), c2 _ _ Pr.lst (by simp), c2 _ _ Pr.dct (by simp), Pr.ne⟩
  have c02 := c1.trans c2
  refine cx_up (pb_start (m := 6) Pr2 hC (c02 _ _ g1 (by simp)) (c02 _ _ g2 (by simp)) n5 h2 h3 (by omega) fun vt H3 len c3 P3 dn => ?_) (by decide)
  have dnH : ∀ y ∈ l :: dynOf vt, H y = none := fun y hy => by
    rcases List.mem_cons.mp hy with rfl | hy
    · exact fl.1
    · cases e : H y with
      | none => rfl
      | some x => have := dn y hy; rw [c02 _ _ e (by simp)] at this; cases this
  have c03 : Chg [] H H3 := c02.low c3 (by simpa using fd.1)
  rw [semSL.eq_2, semS]
  simp only [semX, VT.of, t2, e_items_list (c03 _ _ E.lst (by simp))]
  refine loop487 (prog := prog) (w := w) (n := 21) (H0 := H3) (Hs := H) (kd := kd) (es := es) (by decide) E he hz len c03 fl.1 t4 t1 (fun m5 H5 rcs k5 c5 P5 hc => ?_) es [] [] m1 H3 rfl (fun _ _ => rfl) (Chg.refl _ _) P3 rfl
  have c05 : Chg [] H H5 := c03.low c5 (by simpa using fl.1)
  have u1 := (k5 "problem" (by decide)).trans t1
  have u2 := (k5 "n" (by decide)).trans t3
  have hr : rcs.length ≤ 6 := by
    have h1 := congrArg List.length hc
    simp at h1; omega
  show semSL (CX prog w 21) end487 _ m5 H5
  have mm5 : methOf H5 (.ref p) "addConstraint" = some (.py 79) := by rw [P5.meth (by decide)]; rfl
  rw [end487, semSL.eq_2, semS]
  simp only [semX, semL, VT.of, u1, u2, mm5, binP]
  refine ⟨Or.inl (by decide), cx_up (cx_new410 fun x cdx H6 fx c6 h5 h6 => ?_) (by decide)⟩
  obtain ⟨x1, x2⟩ := P5.newc fx
  have P6 := P5.chg0 c6
  refine cx_up (pb_add' (con := .mx (nn - 1) (List.range 6)) P6 ⟨x1, fx.2, cdx, h5, P6.out h6 (by simp) (by simp), h6⟩ x2 (by omega) (by rw [len]; rfl) fun H7 z c7 P7 => ?_) (by decide)
  have c07 : Chg [] H H7 := (c05.trans c6).low c7 (by simpa using fl.1)
  have mm7 : methOf H7 (.ref p) "getSolution" = some (.py 86) := by rw [P7.meth (by decide)]; rfl
  have hcs : (rcs ++ [(⟨z, x, none, .mx (nn - 1) (List.range 6)⟩ : RC)]).map (·.con) = consN es kd nn := by
    rw [List.map_append, hc]; rfl
  rw [semSL.eq_2, semS]
  simp only [semX, semL, VT.of, u1, mm7]
  refine pb_solve P7 (by omega) (by simp; omega) (fun H8 c8 no => ?_) fun H8 b f asg ep c8 a1 a2 a3 => ?_
  · rw [hcs, len] at no
    simp only [retOf]
    refine qn H8 (c07.low c8 fun y hy => dnH y (by simp [hy])) ?_
    rcases no with h | h
    · omega
    · exact h
  · rw [hcs, len] at a2
    simp only [retOf]
    exact qs H8 b f asg ep (c07.low c8 fun y hy => dnH y (by simp [hy])) a1 a2 (by rw [len] at a3; exact a3)
end
end Csp

namespace Csp

/-! Koenig's theorem for three points and three, by looking at all 512 graphs -/
def all9 : List (Nat × Nat) := [(0, 0), (0, 1), (0, 2), (1, 0), (1, 1), (1, 2), (2, 0), (2, 1), (2, 2)]
def allM : Nat → List (List (Nat × Nat))
  | 1 => all9.map fun x => [x]
  | 2 => all9.flatMap fun x => (all9.filter fun y => x.1 != y.1 && x.2 != y.2).map fun y => [x, y]
  | 3 => [[(0, 0), (1, 1), (2, 2)], [(0, 0), (1, 2), (2, 1)], [(0, 1), (1, 0), (2, 2)], [(0, 1), (1, 2), (2, 0)], [(0, 2), (1, 0), (2, 1)], [(0, 2), (1, 1), (2, 0)]]
  | _ => []
def allC : Nat → List (List Nat)
  | 1 => [[]]
  | 2 => (List.range 6).map fun p => [p]
  | 3 => (List.range 6).flatMap fun p => (List.range 6).map fun q => [p, q]
  | _ => []
def h9 (a b c d e f g h i : Bool) : Nat → Nat → Bool
  | 0, 0 => a | 0, 1 => b | 0, 2 => c | 1, 0 => d | 1, 1 => e | 1, 2 => f | 2, 0 => g | 2, 1 => h | 2, 2 => i | _, _ => false
def konB (h : Nat → Nat → Bool) (n : Nat) : Bool := ((allM n).any fun L => L.all fun x => h x.1 x.2) || (allC n).any fun S => all9.all fun x => !h x.1 x.2 || S.contains x.1 || S.contains (x.2 + 3)
theorem konB_all : ∀ a b c d e f g h i : Bool, (konB (h9 a b c d e f g h i) 1 && konB (h9 a b c d e f g h i) 2 && konB (h9 a b c d e f g h i) 3) = true := by decide +kernel
theorem konB_h (h : Nat → Nat → Bool) (n : Nat) (hn : n = 1 ∨ n = 2 ∨ n = 3) : konB h n = true := by
  have key : ∀ m, (∀ L ∈ allM m, ∀ x ∈ L, x ∈ all9) → konB h m = konB (h9 (h 0 0) (h 0 1) (h 0 2) (h 1 0) (h 1 1) (h 1 2) (h 2 0) (h 2 1) (h 2 2)) m := by
    intro m hL
    have e9 : ∀ x ∈ all9, h x.1 x.2 = h9 (h 0 0) (h 0 1) (h 0 2) (h 1 0) (h 1 1) (h 1 2) (h 2 0) (h 2 1) (h 2 2) x.1 x.2 := by
      intro x hx
      simp only [all9, List.mem_cons, List.not_mem_nil, or_false] at hx
      rcases hx with rfl | rfl | rfl | rfl | rfl | rfl | rfl | rfl | rfl <;> rfl
    unfold konB
    congr 1
    · rw [Bool.eq_iff_iff, List.any_eq_true, List.any_eq_true]
      constructor
      · rintro ⟨L, h1, h2⟩
        refine ⟨L, h1, ?_⟩
        rw [List.all_eq_true] at h2 ⊢
        exact fun x hx => by rw [← e9 x (hL L h1 x hx)]; exact h2 x hx
      · rintro ⟨L, h1, h2⟩
        refine ⟨L, h1, ?_⟩
        rw [List.all_eq_true] at h2 ⊢
        exact fun x hx => by rw [e9 x (hL L h1 x hx)]; exact h2 x hx
  have q := konB_all (h 0 0) (h 0 1) (h 0 2) (h 1 0) (h 1 1) (h 1 2) (h 2 0) (h 2 1) (h 2 2)
  simp only [Bool.and_eq_true] at q
  rcases hn with rfl | rfl | rfl
  · rw [key 1 (by decide)]; exact q.1.1
  · rw [key 2 (by decide)]; exact q.1.2
  · rw [key 3 (by decide)]; exact q.2
theorem allM_ok : ∀ n ∈ [1, 2, 3], ∀ L ∈ allM n, L.length = n ∧ L.Nodup ∧ (∀ x ∈ L, x.1 < 3 ∧ x.2 < 3) ∧ ∀ x ∈ L, ∀ y ∈ L, (x.1 = y.1 ∨ x.2 = y.2) → x = y := by decide +kernel
theorem allC_ok : ∀ n ∈ [1, 2, 3], ∀ S ∈ allC n, ((List.range 6).map fun p => if p ∈ S then (1 : Int) else 0).sum ≤ (n : Int) - 1 := by decide +kernel
theorem kon_main (h : Nat → Nat → Bool) (n : Nat) (hn : n = 1 ∨ n = 2 ∨ n = 3) : (∃ L ∈ allM n, ∀ x ∈ L, h x.1 x.2 = true) ∨ ∃ S ∈ allC n, ∀ x ∈ all9, h x.1 x.2 = true → x.1 ∈ S ∨ x.2 + 3 ∈ S := by
  have q := konB_h h n hn
  unfold konB at q
  rw [Bool.or_eq_true, List.any_eq_true, List.any_eq_true] at q
  rcases q with ⟨L, h1, h2⟩ | ⟨S, h1, h2⟩
  · exact Or.inl ⟨L, h1, List.all_eq_true.mp h2⟩
  · refine Or.inr ⟨S, h1, fun x hx hh => ?_⟩
    have := List.all_eq_true.mp h2 x hx
    simp only [hh, Bool.not_true, Bool.false_or, Bool.or_eq_true, List.contains_iff_mem] at this
    exact this

/-! sums over lists of indices -/
theorem sum_perm (f : Nat → Int) {a b : List Nat} (h : a.Perm b) : (a.map f).sum = (b.map f).sum := by
  induction h with
  | nil => rfl
  | cons x _ ih => simp only [List.map_cons, List.sum_cons, ih]
  | swap x y l => simp only [List.map_cons, List.sum_cons]; omega
  | trans _ _ i1 i2 => exact i1.trans i2
theorem sum_nonneg {f : Nat → Int} (hf : ∀ k, 0 ≤ f k) : ∀ a : List Nat, 0 ≤ (a.map f).sum
  | [] => by simp
  | x :: r => by
    have := sum_nonneg hf r
    have := hf x
    simp only [List.map_cons, List.sum_cons]; omega
theorem sum_sub {f : Nat → Int} (hf : ∀ k, 0 ≤ f k) : ∀ (a b : List Nat), a.Nodup → (∀ x ∈ a, x ∈ b) → (a.map f).sum ≤ (b.map f).sum
  | [], b, _, _ => by simpa using sum_nonneg hf b
  | x :: r, b, nd, h => by
    obtain ⟨n1, n2⟩ := List.nodup_cons.mp nd
    have hx := h x (by simp)
    have := sum_sub hf r (b.erase x) n2 fun y hy => by
      have hne : y ≠ x := by rintro rfl; exact n1 hy
      exact (List.mem_erase_of_ne hne).mpr (h y (by simp [hy]))
    rw [sum_perm f (List.perm_cons_erase hx)]
    simp only [List.map_cons, List.sum_cons]
    omega
theorem sum_one {f : Nat → Int} (hf : ∀ k, f k = 0 ∨ f k = 1) : ∀ (a : List Nat), a.Nodup → (∀ x ∈ a, ∀ y ∈ a, f x = 1 → f y = 1 → x = y) → (a.map f).sum ≤ 1
  | [], _, _ => by simp
  | x :: r, nd, h => by
    obtain ⟨n1, n2⟩ := List.nodup_cons.mp nd
    simp only [List.map_cons, List.sum_cons]
    rcases hf x with e | e
    · have := sum_one hf r n2 fun a ha b hb => h a (by simp [ha]) b (by simp [hb])
      omega
    · have : (r.map f).sum = 0 := by
        have z : ∀ y ∈ r, f y = 0 := fun y hy => by
          rcases hf y with e2 | e2
          · exact e2
          · have := h x (by simp) y (by simp [hy]) e e2
            subst this; exact absurd hy n1
        clear nd h n1 n2
        induction r with
        | nil => rfl
        | cons a r ih => simp only [List.map_cons, List.sum_cons, z a (by simp), ih fun y hy => z y (by simp [hy])]; rfl
      omega
theorem sum_const {f : Nat → Int} : ∀ (a : List Nat), (∀ x ∈ a, f x = 1) → (a.map f).sum = a.length
  | [], _ => by simp
  | x :: r, h => by
    have := sum_const r fun y hy => h y (by simp [hy])
    simp only [List.map_cons, List.sum_cons, h x (by simp), this, List.length_cons]; omega
end Csp

namespace Csp

structure EOk (es : List Ed) : Prop where
  rng : ∀ e ∈ es, e.a < 3 ∧ 3 ≤ e.b ∧ e.b < 6
  dis : ∀ (j k : Nat) (e e' : Ed), es[j]? = some e → es[k]? = some e' → e.a = e'.a → e.b = e'.b → j = k

theorem bin_pos {f : Nat → Int} (h : Bin f) : ∀ k, 0 ≤ f k := fun k => by rcases h k with e | e <;> omega
theorem Bin01 {f : Nat → Int} (h : Bin f) : ∀ k, f k = 0 ∨ f k = 1 := h
theorem atEd_at {es : List Ed} {p k : Nat} {e : Ed} (h : es[k]? = some e) : atEd es p k = (e.a == p || e.b == p) := by simp only [atEd, h]
theorem mem_ends {es : List Ed} {p k : Nat} : k ∈ endsOf es p ↔ k < es.length ∧ atEd es p k = true := by
  unfold endsOf
  rw [List.mem_filter, List.mem_range]

/-- a matching of n edges, or n - 1 points that meet all edges -/
theorem kon_exists {es : List Ed} (E : EOk es) (n : Nat) (hn : n = 1 ∨ n = 2 ∨ n = 3) (kd : Int) : (0 < es.length ∧ ∃ f, SolP es.length (consE es n) f) ∨ ∃ g, SolP 6 (consN es kd n) g := by
  have hn3 : n ∈ [1, 2, 3] := by simp; omega
  let h : Nat → Nat → Bool := fun i j => es.any fun e => e.a == i && e.b == j + 3
  rcases kon_main h n hn with ⟨L, hL, hh⟩ | ⟨S, hS, hh⟩
  · left
    obtain ⟨l1, l2, l3, l4⟩ := allM_ok n hn3 L hL
    have idx : ∀ x ∈ L, ∃ (k : Nat) (e : Ed), es[k]? = some e ∧ e.a = x.1 ∧ e.b = x.2 + 3 := fun x hx => by
      have := hh x hx
      simp only [h, List.any_eq_true, Bool.and_eq_true, beq_iff_eq] at this
      obtain ⟨e, he, h1, h2⟩ := this
      obtain ⟨k, hk, rfl⟩ := List.getElem_of_mem he
      exact ⟨k, _, List.getElem?_eq_getElem hk, h1, h2⟩
    let f : Nat → Int := fun k => match es[k]? with
      | some e => if (e.a, e.b - 3) ∈ L then 1 else 0
      | none => 0
    have fat : ∀ (k : Nat) (e : Ed), es[k]? = some e → f k = if (e.a, e.b - 3) ∈ L then 1 else 0 := fun k e he => by simp only [f, he]
    have fb : ∀ k, f k = 0 ∨ f k = 1 := fun k => by
      simp only [f]
      cases es[k]? with
      | none => exact Or.inl rfl
      | some e => dsimp only; split <;> simp
    have fone : ∀ k, f k = 1 → ∃ e, es[k]? = some e ∧ (e.a, e.b - 3) ∈ L ∧ e ∈ es := fun k hk => by
      cases he : es[k]? with
      | none => simp only [f, he] at hk; cases hk
      | some e =>
        rw [fat k e he] at hk
        refine ⟨e, rfl, ?_, List.mem_of_getElem? he⟩
        by_cases hm : (e.a, e.b - 3) ∈ L
        · exact hm
        · rw [if_neg hm] at hk; cases hk
    -- the indices of the matching
    have ix : ∀ (M : List (Nat × Nat)), M.Nodup → (∀ x ∈ M, x ∈ L) → ∃ I : List Nat, I.length = M.length ∧ I.Nodup ∧ (∀ k ∈ I, k < es.length ∧ f k = 1) ∧ ∀ k ∈ I, ∃ e, es[k]? = some e ∧ (e.a, e.b - 3) ∈ M := by
      intro M
      induction M with
      | nil => exact fun _ _ => ⟨[], rfl, List.nodup_nil, by simp, by simp⟩
      | cons x r ih =>
        intro nd hM
        obtain ⟨n1, n2⟩ := List.nodup_cons.mp nd
        obtain ⟨I, i1, i2, i3, i4⟩ := ih n2 fun y hy => hM y (by simp [hy])
        obtain ⟨k, e, he, e1, e2⟩ := idx x (hM x (by simp))
        have hx : (e.a, e.b - 3) = x := by rw [e1, e2]; simp
        have lt : k < es.length := (List.getElem?_eq_some_iff.mp he).1
        refine ⟨k :: I, by simp [i1], List.nodup_cons.mpr ⟨fun hk => ?_, i2⟩, fun j hj => ?_, fun j hj => ?_⟩
        · obtain ⟨e', he', hm⟩ := i4 k hk
          rw [he] at he'
          cases he'
          rw [hx] at hm; exact n1 hm
        · rcases List.mem_cons.mp hj with rfl | hj
          · exact ⟨lt, by rw [fat j e he, if_pos (by rw [hx]; exact hM x (by simp))]⟩
          · exact i3 j hj
        · rcases List.mem_cons.mp hj with rfl | hj
          · exact ⟨e, he, by rw [hx]; simp⟩
          · obtain ⟨e', a, b⟩ := i4 j hj
            exact ⟨e', a, by simp [b]⟩
    obtain ⟨I, i1, i2, i3, _⟩ := ix L l2 fun _ h => h
    have pos : ∀ k, 0 ≤ f k := fun k => by rcases fb k with e | e <;> omega
    have hlen : 0 < es.length := by
      cases I with
      | nil => simp at i1; omega
      | cons k r => have := (i3 k (by simp)).1; omega
    refine ⟨hlen, f, fb, fun c hc => ?_⟩
    rcases List.mem_append.mp hc with hc | hc
    · obtain ⟨p, hp, hc⟩ := List.mem_flatMap.mp hc
      unfold consP at hc
      split at hc
      · cases hc
      · obtain rfl := List.mem_singleton.mp hc
        show ((endsOf es p).map f).sum ≤ 1
        refine sum_one fb _ (ends_nodup es p) fun j hj k hk fj fk => ?_
        obtain ⟨e, he, hm, hes⟩ := fone j fj
        obtain ⟨e', he', hm', hes'⟩ := fone k fk
        have a1 := (mem_ends.mp hj).2
        have a2 := (mem_ends.mp hk).2
        rw [atEd_at he] at a1
        rw [atEd_at he'] at a2
        have r1 := E.rng e hes
        have r2 := E.rng e' hes'
        simp only [Bool.or_eq_true, beq_iff_eq] at a1 a2
        have := l4 _ hm _ hm' (by simp only; omega)
        simp only [Prod.mk.injEq] at this
        exact E.dis j k e e' he he' this.1 (by omega)
    · obtain rfl := List.mem_singleton.mp hc
      show (n : Int) ≤ ((List.range es.length).map f).sum
      have s1 := sum_sub pos I (List.range es.length) i2 fun k hk => by simpa using (i3 k hk).1
      have s2 := sum_const I fun k hk => (i3 k hk).2
      omega
  · right
    let g : Nat → Int := fun p => if p ∈ S then 1 else 0
    have gb : ∀ k, g k = 0 ∨ g k = 1 := fun k => by simp only [g]; split <;> simp
    refine ⟨g, gb, fun c hc => ?_⟩
    rcases List.mem_append.mp hc with hc | hc
    · obtain ⟨e, he, rfl⟩ := List.mem_map.mp hc
      obtain ⟨r1, r2, r3⟩ := E.rng e he
      have h9 : (e.a, e.b - 3) ∈ all9 := by
        have q : ∀ a < 3, ∀ b < 3, (a, b) ∈ all9 := by decide
        exact q _ r1 _ (by omega)
      have := hh _ h9 (by
        simp only [h, List.any_eq_true, Bool.and_eq_true, beq_iff_eq]
        exact ⟨e, he, rfl, by omega⟩)
      have e3 : e.b - 3 + 3 = e.b := by omega
      simp only [e3] at this
      have ga : g e.a = 1 ∨ g e.b = 1 := by
        rcases this with h1 | h1
        · left; simp only [g]; rw [if_pos h1]
        · right; simp only [g]; rw [if_pos h1]
      unfold conE
      split
      · show (1 : Int) ≤ ([e.a, e.b].map g).sum
        simp only [List.map_cons, List.map_nil, List.sum_cons, List.sum_nil]
        rcases gb e.a with h1 | h1 <;> rcases gb e.b with h2 | h2 <;> omega
      · show ∃ k ∈ [e.a, e.b], g k = 1
        rcases ga with h1 | h1
        · exact ⟨_, by simp, h1⟩
        · exact ⟨_, List.mem_cons_of_mem _ (by simp), h1⟩
    · obtain rfl := List.mem_singleton.mp hc
      exact allC_ok n hn3 S hS

section
variable {es : List Ed} {n : Int} {kd : Int} {f g : Nat → Int}

/-- a solution of the edges: at most one at each point -/
theorem one_at (E : EOk es) (F : SolP es.length (consE es n) f) (p : Nat) : ((endsOf es p).map f).sum ≤ 1 := by
  by_cases he : endsOf es p = []
  · rw [he]; simp
  · obtain ⟨k, hk⟩ : ∃ k, k ∈ endsOf es p := by
      cases h : endsOf es p with
      | nil => exact absurd h he
      | cons a r => exact ⟨a, by simp⟩
    obtain ⟨h1, h2⟩ := mem_ends.mp hk
    have he2 := List.getElem?_eq_getElem h1
    rw [atEd_at he2] at h2
    have r := E.rng _ (List.getElem_mem h1)
    simp only [Bool.or_eq_true, beq_iff_eq] at h2
    refine F.2 (.mx 1 (endsOf es p)) (List.mem_append_left _ (List.mem_flatMap.mpr ⟨p, by simp; omega, ?_⟩))
    unfold consP
    rw [if_neg he]; simp
theorem all_sum (F : SolP es.length (consE es n) f) : n ≤ ((List.range es.length).map f).sum := F.2 (.mn n (List.range es.length)) (List.mem_append_right _ (by simp))
theorem cov_sum (G : SolP 6 (consN es kd n) g) : ((List.range 6).map g).sum ≤ n - 1 := G.2 (.mx (n - 1) (List.range 6)) (List.mem_append_right _ (by simp))
theorem cov_at (G : SolP 6 (consN es kd n) g) : ∀ e ∈ es, g e.a = 1 ∨ g e.b = 1 := fun e he => by
  have := G.2 (conE kd e) (List.mem_append_left _ (List.mem_map.mpr ⟨e, he, rfl⟩))
  unfold conE at this
  split at this
  · have h : (1 : Int) ≤ ([e.a, e.b].map g).sum := this
    simp only [List.map_cons, List.map_nil, List.sum_cons, List.sum_nil] at h
    rcases G.1 e.a with h1 | h1 <;> rcases G.1 e.b with h2 | h2 <;> omega
  · obtain ⟨k, hk, h1⟩ := this
    simp only [List.mem_cons, List.not_mem_nil, or_false] at hk
    rcases hk with rfl | rfl
    · exact Or.inl h1
    · exact Or.inr h1

/-- the sum over a point's edges among the first m -/
def sAt (es : List Ed) (f : Nat → Int) (m p : Nat) : Int := (((List.range m).filter (atEd es p)).map f).sum
theorem sAt_succ (m p : Nat) : sAt es f (m + 1) p = sAt es f m p + if atEd es p m then f m else 0 := by
  unfold sAt
  rw [List.range_succ, List.filter_append, List.map_append, List.sum_append]
  congr 1
  cases h : atEd es p m <;> simp [h]
theorem sum_succ (m : Nat) : ((List.range (m + 1)).map f).sum = ((List.range m).map f).sum + f m := by
  rw [List.range_succ, List.map_append, List.sum_append]; simp

theorem weak (E : EOk es) (hf : Bin f) (hg : Bin g) (hc : ∀ e ∈ es, g e.a = 1 ∨ g e.b = 1) : ∀ m, m ≤ es.length →
    ((List.range m).map f).sum ≤ g 0 * sAt es f m 0 + g 1 * sAt es f m 1 + g 2 * sAt es f m 2 + g 3 * sAt es f m 3 + g 4 * sAt es f m 4 + g 5 * sAt es f m 5 := by
  intro m
  induction m with
  | zero => intro _; simp [sAt]
  | succ m ih =>
    intro hm
    have ih := ih (by omega)
    have he := List.getElem?_eq_getElem (show m < es.length by omega)
    have hme := List.getElem_mem (show m < es.length by omega)
    generalize es[m]'(by omega) = e at he hme
    obtain ⟨r1, r2, r3⟩ := E.rng e hme
    have hce := hc e hme
    simp only [sAt_succ, sum_succ, atEd_at he]
    have ha : e.a = 0 ∨ e.a = 1 ∨ e.a = 2 := by omega
    have hb : e.b = 3 ∨ e.b = 4 ∨ e.b = 5 := by omega
    have hf0 := hf m
    have p0 := hg 0; have p1 := hg 1; have p2 := hg 2; have p3 := hg 3; have p4 := hg 4; have p5 := hg 5
    generalize f m = x at hf0 ⊢
    rcases ha with ha | ha | ha <;> rcases hb with hb | hb | hb <;> rw [ha, hb] at hce ⊢ <;> rcases hf0 with rfl | rfl <;> simp [Int.mul_add] <;> omega

theorem kon_not (E : EOk es) (F : SolP es.length (consE es n) f) (G : SolP 6 (consN es kd n) g) : False := by
  have w := weak E F.1 G.1 (cov_at G) es.length (Nat.le_refl _)
  have a := all_sum F
  have b := cov_sum G
  have s : ∀ p, sAt es f es.length p ≤ 1 := fun p => one_at E F p
  have s0 := s 0; have s1 := s 1; have s2 := s 2; have s3 := s 3; have s4 := s 4; have s5 := s 5
  have m : ∀ p, g p * sAt es f es.length p ≤ g p := fun p => by
    rcases G.1 p with h | h <;> rw [h]
    · simp
    · have := s p; omega
  have m0 := m 0; have m1 := m 1; have m2 := m 2; have m3 := m 3; have m4 := m 4; have m5 := m 5
  have e : ((List.range 6).map g).sum = g 0 + g 1 + g 2 + g 3 + g 4 + g 5 := by
    show g 0 + (g 1 + (g 2 + (g 3 + (g 4 + (g 5 + 0))))) = _
    omega
  omega
end
end Csp

namespace Csp
open PySem PySem.W PySem.Calls PyProof.Rows PySem.SeqAt Builtin Builtin.ObjectAttr

/-- the points of the chosen edges, in order -/
def ptsOf (es : List Ed) (k : Nat) : List Nat := match es[k]? with
  | some e => [e.a, e.b]
  | none => []
def endsL (es : List Ed) (f : Nat → Int) (l : List Nat) : List Nat := l.flatMap fun k => if f k = 0 then [] else ptsOf es k
theorem ends_len {es : List Ed} {f : Nat → Int} (hf : Bin f) : ∀ m, m ≤ es.length → ((endsL es f (List.range m)).length : Int) = 2 * ((List.range m).map f).sum ∧ ∀ p, (∀ e ∈ es, e.a ≠ e.b) → ((endsL es f (List.range m)).count p : Int) = sAt es f m p := by
  intro m
  induction m with
  | zero => intro _; simp [endsL, sAt]
  | succ m ih =>
    intro hm
    obtain ⟨h1, h2⟩ := ih (by omega)
    have he := List.getElem?_eq_getElem (show m < es.length by omega)
    have hme := List.getElem_mem (show m < es.length by omega)
    generalize es[m]'(by omega) = e at he hme
    have hs : endsL es f (List.range (m + 1)) = endsL es f (List.range m) ++ if f m = 0 then [] else [e.a, e.b] := by
      unfold endsL
      rw [List.range_succ, List.flatMap_append]
      simp only [List.flatMap_cons, List.flatMap_nil, List.append_nil, ptsOf, he]
    rw [hs]
    constructor
    · rw [sum_succ, List.length_append]
      rcases hf m with e0 | e0 <;> rw [e0] <;> simp <;> omega
    · intro p hne
      have := hne e hme
      rw [sAt_succ, List.count_append, atEd_at he]
      have h2 := h2 p hne
      rcases hf m with e0 | e0 <;> rw [e0]
      · simp; omega
      · by_cases ha : e.a = p <;> by_cases hb : e.b = p
        · omega
        · subst ha; simp [List.count_cons, hb]; omega
        · subst hb; simp [List.count_cons, ha]; omega
        · simp [List.count_cons, ha, hb]; omega

theorem ends_ok {es : List Ed} {n : Int} {f : Nat → Int} (E : EOk es) (F : SolP es.length (consE es n) f) : 2 * n ≤ ((endsL es f (List.range es.length)).length : Int) ∧ (endsL es f (List.range es.length)).Nodup := by
  obtain ⟨h1, h2⟩ := ends_len F.1 es.length (Nat.le_refl _)
  have ha := all_sum F
  refine ⟨by omega, List.nodup_iff_count.mpr fun p => ?_⟩
  have := h2 p fun e he h => by have := E.rng e he; omega
  have := one_at E F p
  unfold sAt at *
  have : (((endsOf es p)).map f).sum = (((List.range es.length).filter (atEd es p)).map f).sum := rfl
  omega

/-- the points of a solution -/
def someL (g : Nat → Int) (l : List Nat) : List Nat := l.filter fun p => g p != 0
theorem some_len {g : Nat → Int} (hg : Bin g) : ∀ l : List Nat, ((someL g l).length : Int) = (l.map g).sum
  | [] => rfl
  | p :: r => by
    have := some_len hg r
    unfold someL at *
    rw [List.map_cons, List.sum_cons, List.filter_cons]
    rcases hg p with e | e <;> rw [e]
    · simp; omega
    · simp; omega

section
variable {prog : Program} {w : World} {n : Nat} {H0 Hs Hb H H' : Hp} {el : Addr} {es : List Ed}

/-- the turns over one edge's points -/
theorem inner2 {acc ch : Addr} {asg : As} {ep : Nat} {m : Loc} {k : Nat} {e : Ed} {x : Int} {src : Hp → Prop} {K : Hp → Prop} {ys : List Nat} (hsrc : ∀ xs, src (upd H acc xs)) (hsrc0 : src H) (s2 : m "chosen" = some (.ref ch)) (hch : H ch = some (.dict asg ep)) (nch : ch ≠ acc) (hl : look asg (k : Int) = some (.int x))
    (hacc : H acc = some (.list (ys.map fun (k : Nat) => AV.int (k : Int)))) (hy : ys.length < 100)
    (hsrc' : ∀ xs ys, src (upd (upd H acc xs) acc ys))
    (q : ∀ H', Chg [acc] H H' → H' acc = some (.list ((ys ++ if x = 0 then [] else [e.a, e.b]).map fun (k : Nat) => AV.int (k : Int))) → K H') :
    compL src (fun b => (semX (CX prog w n) (upL (upL m "k" (.int (k : Int))) "point" b) (.loc "point")).v) (fun b => (semX (CX prog w n) (upL (upL m "k" (.int (k : Int))) "point" b) (.cmp .NotEq (.idx (.loc "chosen") (.loc "k")) (.lit (.int 0)))).t) acc K [.int e.a, .int e.b] H := by
  have t : ∀ b, (upL (upL m "k" (.int (k : Int))) "point" b) "chosen" = some (.ref ch) ∧ (upL (upL m "k" (.int (k : Int))) "point" b) "k" = some (.int (k : Int)) ∧ (upL (upL m "k" (.int (k : Int))) "point" b) "point" = some b := fun b => by simp [upL, s2]
  have one : ∀ (b : AV) (R : Bool → Hp → Prop) (H1 : Hp), H1 ch = some (.dict asg ep) → ((semX (CX prog w n) (upL (upL m "k" (.int (k : Int))) "point" b) (.cmp .NotEq (.idx (.loc "chosen") (.loc "k")) (.lit (.int 0)))).t R H1 = R (!(x == 0)) H1) := fun b R H1 h => by
    obtain ⟨t1, t2, t3⟩ := t b
    simp only [semX, VT.of, t1, t2, e_idx_dict h, hl, cmpP, eqP, AV.isBool, true_and]
  have el : ∀ (b : AV) (R : AV → Hp → Prop) (H1 : Hp), ((semX (CX prog w n) (upL (upL m "k" (.int (k : Int))) "point" b) (.loc "point")).v R H1 = R b H1) := fun b R H1 => by
    obtain ⟨t1, t2, t3⟩ := t b
    simp only [semX, VT.of, t3]
  have hch1 : ∀ xs, (upd H acc xs) ch = some (.dict asg ep) := fun xs => upd_old hch nch
  simp only [compL, one _ _ _ hch, one _ _ _ (hch1 _), el]
  refine ⟨hsrc0, ?_⟩
  by_cases hx : x = 0
  · subst hx
    simp only [beq_self_eq_true, Bool.not_true, Bool.false_eq_true, if_false]
    exact ⟨hsrc0, hsrc0, q H (Chg.refl _ _) (by simpa using hacc)⟩
  · have hb : (x == 0) = false := by simpa using hx
    simp only [hb, Bool.not_false, if_true, hacc]
    refine ⟨by simp; unfold big; omega, hsrc _, ?_⟩
    simp only [upd_at]
    refine ⟨by simp; unfold big; omega, hsrc' _ _, ?_⟩
    exact q _ (((Chg.refl _ _).upd (by simp)).upd (by simp)) (by rw [upd_at, if_neg hx]; simp)
end
end Csp

namespace Csp
open PySem PySem.W PySem.Calls PyProof.Rows PySem.SeqAt Builtin Builtin.ObjectAttr

theorem sameSrc_upd {H0 H : Hp} {a acc : Addr} {xs : List AV} {o : AO} (h0 : H0 a = some (.list xs)) (h : H a = some (.list xs)) (n : a ≠ acc) : sameSrc H0 (upd H acc o) (.ref a) := by
  simp only [sameSrc, h0, upd_old h n, and_self]

section
variable {prog : Program} {w : World} {n : Nat} {H0 Hs Hb H H' : Hp} {el : Addr} {es : List Ed} {f g : Nat → Int}

/-- all chosen edges' points -/
theorem loopEnds2 {rg acc ch : Addr} {asg : As} {ep : Nat} {m : Loc} {fin : Hp → Prop} (hsrc : ∀ H', Chg [acc] Hb H' → sameSrc H0 H' (.ref rg)) (E : EdsAt Hb el es) (na : el ≠ acc ∧ ∀ e ∈ es, e.z ≠ acc) (hz : es.length ≤ 6) (hf : Bin f)
    (s1 : m "chosen" = some (.ref ch)) (s2 : m "edges" = some (.ref el)) (hch : Hb ch = some (.dict asg ep)) (nch : ch ≠ acc) (hl : ∀ k, k < es.length → look asg (k : Int) = some (.int (f k))) :
    ∀ (r i : Nat) (ys : List Nat) (H : Hp), i + r = es.length → ys.length ≤ 2 * i → Chg [acc] Hb H → H acc = some (.list (ys.map fun (k : Nat) => AV.int (k : Int))) →
      (∀ H', Chg [acc] Hb H' → H' acc = some (.list ((ys ++ endsL es f (List.range' i r)).map fun (k : Nat) => AV.int (k : Int))) → fin H') →
      compL2 (fun _ H' => sameSrc H0 H' (.ref rg)) (fun a => (semX (CX prog w n) (upL m "k" a) (.idx (.loc "edges") (.loc "k"))).v) (fun a b => (semX (CX prog w n) (upL (upL m "k" a) "point" b) (.cmp .NotEq (.idx (.loc "chosen") (.loc "k")) (.lit (.int 0)))).t) (fun a b => (semX (CX prog w n) (upL (upL m "k" a) "point" b) (.loc "point")).v) acc fin ((List.range' i r).map fun (k : Nat) => AV.int (k : Int)) H := by
  intro r
  induction r with
  | zero =>
    intro i ys H hi hy c ha q
    exact ⟨hsrc H c, q H c (by simpa [endsL] using ha)⟩
  | succ r ih =>
    intro i ys H hi hy c ha q
    rw [List.range'_succ, List.map_cons, compL2]
    refine ⟨hsrc H c, ?_⟩
    have lt : i < es.length := by omega
    have he := List.getElem?_eq_getElem lt
    have hm := List.getElem_mem lt
    generalize es[i]'lt = e at he hm
    have h1 := c _ _ E.lst (by simpa using na.1)
    have h2 := c _ _ (E.row e hm) (by simpa using na.2 e hm)
    have h3 := c _ _ hch (by simpa using nch)
    have t2 : (upL m "k" (.int (i : Int))) "edges" = some (.ref el) := by simp [upL, s2]
    have t3 : (upL m "k" (.int (i : Int))) "k" = some (.int (i : Int)) := by simp [upL]
    have hidx : ∀ R : AV → Hp → Prop, getP (es.map fun e => AV.ref e.z) (i : Int) R H = R (.ref e.z) H := fun R => by
      simp only [getP, Int.natCast_nonneg, if_true, Int.toNat_natCast, List.getElem?_map, he, Option.map]
    have key : ∀ K : AV → Hp → Prop, K (.ref e.z) H → (semX (CX prog w n) (upL m "k" (.int (i : Int))) (.idx (.loc "edges") (.loc "k"))).v K H := fun K hK => by
      simp only [semX, VT.of, t2, t3, e_idx_list h1, hidx]
      exact ⟨by omega, hK⟩
    refine key _ ?_
    simp only [e_items_list h2]
    refine inner2 (e := e) (ys := ys) (x := f i) (ch := ch) (asg := asg) (ep := ep) (fun xs => sameSrc_upd h2 h2 (na.2 e hm)) (by simp only [sameSrc, h2, and_self]) s1 h3 nch (hl i lt) ha (by omega) (fun xs ys => sameSrc_upd h2 (upd_old h2 (na.2 e hm)) (na.2 e hm)) fun H2 c2 h4 => ?_
    have hpt : endsL es f (List.range' i (r + 1)) = (if f i = 0 then [] else [e.a, e.b]) ++ endsL es f (List.range' (i + 1) r) := by
      unfold endsL
      rw [List.range'_succ, List.flatMap_cons]
      congr 1
      simp only [ptsOf, he]
    refine ih (i + 1) _ H2 (by omega) ?_ (c.trans c2) h4 fun H' c' h' => q H' c' ?_
    · rw [List.length_append]
      split <;> simp <;> omega
    · rw [h', hpt, List.append_assoc]

/-- the chosen points -/
theorem loopSome {rg acc pt : Addr} {asg : As} {ep : Nat} {m : Loc} {fin : Hp → Prop} (hsrc : ∀ H', Chg [acc] Hb H' → sameSrc H0 H' (.ref rg))
    (s1 : m "points" = some (.ref pt)) (hpt : Hb pt = some (.dict asg ep)) (npt : pt ≠ acc) {tot : Nat} (htot : tot < 100) (hl : ∀ k : Nat, k < tot → look asg (k : Int) = some (.int (g k))) :
    ∀ (r i : Nat) (ys : List Nat) (H : Hp), i + r = tot → ys.length ≤ i → Chg [acc] Hb H → H acc = some (.list (ys.map fun (k : Nat) => AV.int (k : Int))) →
      (∀ H', Chg [acc] Hb H' → H' acc = some (.list ((ys ++ someL g (List.range' i r)).map fun (k : Nat) => AV.int (k : Int))) → fin H') →
      compL (fun H' => sameSrc H0 H' (.ref rg)) (fun y => (semX (CX prog w n) (upL m "point" y) (.loc "point")).v) (fun y => semTs (CX prog w n) (upL m "point" y) (.cons (.cmp .NotEq (.idx (.loc "points") (.loc "point")) (.lit (.int 0))) .nil)) acc fin ((List.range' i r).map fun (k : Nat) => AV.int (k : Int)) H := by
  intro r
  induction r with
  | zero =>
    intro i ys H hi hy c ha q
    exact ⟨hsrc H c, q H c (by simpa [someL] using ha)⟩
  | succ r ih =>
    intro i ys H hi hy c ha q
    rw [List.range'_succ, List.map_cons, compL]
    refine ⟨hsrc H c, ?_⟩
    have h1 := c _ _ hpt (by simpa using npt)
    have t1 : (upL m "point" (.int (i : Int))) "points" = some (.ref pt) := by simp [upL, s1]
    have t3 : (upL m "point" (.int (i : Int))) "point" = some (.int (i : Int)) := by simp [upL]
    simp only [semTs, semX, VT.of, t1, t3, e_idx_dict h1, hl i (by omega), cmpP, eqP, AV.isBool]
    refine ⟨trivial, ?_⟩
    by_cases hb : g i = 0
    · have : (g i == 0) = true := by simpa using hb
      simp only [this, Bool.not_true, Bool.false_eq_true, if_false]
      refine ih (i + 1) ys H (by omega) (by omega) c ha fun H' c' h' => q H' c' ?_
      rw [h', List.range'_succ]
      simp [someL, hb]
    · have : (g i == 0) = false := by simpa using hb
      simp only [this, Bool.not_false, if_true, ha]
      refine ⟨by simp; unfold big; omega, ?_⟩
      refine ih (i + 1) (ys ++ [i]) _ (by omega) (by simp; omega) (c.upd (by simp)) (by rw [upd_at]; simp) fun H' c' h' => q H' c' ?_
      rw [h', List.range'_succ]
      simp [someL, hb]

def tUnc : EL := .cons (.and2 (.cmp .NotIn (.idx (.loc "edge") (.lit (.int 0))) (.loc "some")) (.cmp .NotIn (.idx (.loc "edge") (.lit (.int 1))) (.loc "some"))) .nil
/-- no edge without a chosen point -/
theorem loopUnc {acc so : Addr} {ss : List Nat} {m : Loc} {fin : Hp → Prop} (E : EdsAt H el es) (na : el ≠ acc ∧ ∀ e ∈ es, e.z ≠ acc) (h0 : H0 el = some (.list (es.map fun e => .ref e.z)))
    (s1 : m "some" = some (.ref so)) (hso : H so = some (.list (ss.map fun (k : Nat) => AV.int (k : Int)))) (hc : ∀ e ∈ es, e.a ∈ ss ∨ e.b ∈ ss) (q : fin H) :
    ∀ (l : List Ed), (∀ e ∈ l, e ∈ es) → compL (fun H' => sameSrc H0 H' (.ref el)) (fun y => (semX (CX prog w n) (upL m "edge" y) (.loc "edge")).v) (fun y => semTs (CX prog w n) (upL m "edge" y) tUnc) acc fin (l.map fun e => AV.ref e.z) H
  | [], _ => ⟨by simp only [sameSrc, h0, E.lst, and_self], q⟩
  | e :: r, h => by
    rw [List.map_cons, compL]
    refine ⟨by simp only [sameSrc, h0, E.lst, and_self], ?_⟩
    have he := h e (by simp)
    have hr := E.row e he
    have t1 : (upL m "edge" (.ref e.z)) "edge" = some (.ref e.z) := by simp [upL]
    have t2 : (upL m "edge" (.ref e.z)) "some" = some (.ref so) := by simp [upL, s1]
    have ih := loopUnc E na h0 s1 hso hc q r fun x hx => h x (by simp [hx])
    have g0 : ∀ R : AV → Hp → Prop, getP [AV.int (e.a : Int), AV.int (e.b : Int)] 0 R H = R (.int (e.a : Int)) H := fun R => rfl
    have g1 : ∀ R : AV → Hp → Prop, getP [AV.int (e.a : Int), AV.int (e.b : Int)] 1 R H = R (.int (e.b : Int)) H := fun R => rfl
    have ai : ((ss.map fun (k : Nat) => AV.int (k : Int)).all AV.isInt) = true := by simp [AV.isInt]
    have an : ∀ p : Nat, ((ss.map fun (k : Nat) => AV.int (k : Int)).any fun x => x.num == (p : Int)) = decide (p ∈ ss) := fun p => by
      rw [Bool.eq_iff_iff, List.any_eq_true, decide_eq_true_iff]
      constructor
      · rintro ⟨x, hx, h2⟩
        obtain ⟨k, hk, rfl⟩ := List.mem_map.mp hx
        simp only [AV.num, beq_iff_eq] at h2
        have : k = p := by omega
        subst this; exact hk
      · intro hp
        exact ⟨_, List.mem_map.mpr ⟨p, hp, rfl⟩, by simp [AV.num]⟩
    have hce := hc e he
    have key : ∀ R : Bool → Hp → Prop, R false H → semTs (CX prog w n) (upL m "edge" (.ref e.z)) tUnc R H := by
      intro R hR
      simp only [tUnc, semTs, semX, VT.of, t1, t2, e_idx_list hr, g0, g1, cmpP, e_in_list hso, ai, an]
      refine ⟨by decide, trivial, ?_⟩
      by_cases ha : e.a ∈ ss
      · simp only [ha, decide_true, Bool.not_true, Bool.false_eq_true, if_false]
        exact hR
      · have hb : e.b ∈ ss := by rcases hce with h | h; exact absurd h ha; exact h
        simp only [ha, decide_false, Bool.not_false, if_true, t1, t2, e_idx_list hr, g1, e_in_list hso, ai, an, hb, decide_true, Bool.not_true, Bool.false_eq_true, if_false]
        exact ⟨by decide, trivial, hR⟩
    exact key _ ih
end
end Csp

namespace Csp
open PySem PySem.W PySem.Calls PyProof.Rows PySem.SeqAt Builtin Builtin.ObjectAttr

def SvAt (H : Hp) (s : Addr) : Prop := ∃ C sdx fb, C ∈ svC ∧ H s = some (.inst C sdx) ∧ H sdx = some (.ns [("_forwardcheck", .bool fb)]) ∧ s ≠ 347
theorem SvAt.chg {H H' : Hp} {s : Addr} (S : SvAt H s) (c : Chg [] H H') : SvAt H' s := by
  obtain ⟨C, x, fb, a, b, d, e⟩ := S
  exact ⟨C, x, fb, a, c _ _ b (by simp), c _ _ d (by simp), e⟩

def eChosen : E := .call (.lit (.ref 480)) (.cons (.idx (.loc "solvers") (.bin .Mod (.call (.lit (.ref 475)) (.cons (.loc "script") (.cons (.lit (.int 0)) .nil))) (.lit (.int 4)))) (.cons (.loc "edges") (.cons (.loc "n") .nil)))
def ePoints : E := .call (.lit (.ref 487)) (.cons (.idx (.loc "solvers") (.bin .Mod (.call (.lit (.ref 475)) (.cons (.loc "script") (.cons (.lit (.int 1)) .nil))) (.lit (.int 4)))) (.cons (.loc "edges") (.cons (.loc "n") (.cons (.bin .Mod (.bin .FloorDiv (.call (.lit (.ref 475)) (.cons (.loc "script") (.cons (.lit (.int 0)) .nil))) (.lit (.int 4))) (.lit (.int 2))) .nil))))
def eEnds : E := .comp2 (.loc "point") "k" (.bi .range (.cons (.bi .len (.cons (.loc "edges") .nil)) .nil)) "point" (.idx (.loc "edges") (.loc "k")) (.cmp .NotEq (.idx (.loc "chosen") (.loc "k")) (.lit (.int 0)))
def eSome : E := .comp (.loc "point") "point" (.bi .range (.cons (.lit (.int 6)) .nil)) (.cons (.cmp .NotEq (.idx (.loc "points") (.loc "point")) (.lit (.int 0))) .nil)
def eUnc : E := .comp (.loc "edge") "edge" (.loc "edges") tUnc
def retF : SL := .cons (.ret (.lit (.bool false))) .nil
def bEnds : SL := .cons (.assign "ends" eEnds) (.cons (.ife (.or2 (.cmp .Lt (.bi .len (.cons (.loc "ends") .nil)) (.bin .Mult (.lit (.int 2)) (.loc "n"))) (.cmp .NotEq (.bi .lenset (.cons (.loc "ends") .nil)) (.bi .len (.cons (.loc "ends") .nil)))) retF .nil) .nil)
def bSome : SL := .cons (.assign "some" eSome) (.cons (.ife (.or2 (.cmp .GtE (.bi .len (.cons (.loc "some") .nil)) (.loc "n")) (.cmp .NotEq eUnc (.list .nil))) retF .nil) .nil)
def bodyN : SL := .cons (.assign "chosen" eChosen) (.cons (.assign "points" ePoints) (.cons (.ife (.cmp .Eq (.cmp .Is (.loc "chosen") (.lit .none)) (.cmp .Is (.loc "points") (.lit .none))) retF .nil) (.cons (.ife (.cmp .Is (.loc "points") (.lit .none)) bEnds bSome) .nil)))
def bodyU : SL := .cons (.assign "u" (.call (.lit (.ref 475)) (.cons (.loc "script") (.cons (.bin .Add (.lit (.int 3)) (.loc "k")) .nil)))) (.cons (.ife (.cmp .NotIn (.list (.cons (.bin .Mod (.loc "u") (.lit (.int 3))) (.cons (.bin .Add (.lit (.int 3)) (.bin .Mod (.bin .FloorDiv (.loc "u") (.lit (.int 3))) (.lit (.int 3)))) .nil))) (.loc "edges")) (.cons (.expr (.meth (.loc "edges") "append" (.cons (.list (.cons (.bin .Mod (.loc "u") (.lit (.int 3))) (.cons (.bin .Add (.lit (.int 3)) (.bin .Mod (.bin .FloorDiv (.loc "u") (.lit (.int 3))) (.lit (.int 3)))) .nil))) .nil))) .nil) .nil) .nil)
def endN : SL := .cons (.for1 ["n"] (.bi .range2 (.cons (.lit (.int 1)) (.cons (.lit (.int 4)) .nil))) bodyN .nil) (.cons (.ret (.lit (.bool true))) .nil)
theorem b492_eq : b492 = .cons (.assign "solvers" (.list (.cons (.call (.lit (.ref 186)) .nil) (.cons (.call (.lit (.ref 225)) .nil) (.cons (.call (.lit (.ref 186)) (.cons (.lit (.bool false)) .nil)) (.cons (.call (.lit (.ref 225)) (.cons (.lit (.bool false)) .nil)) .nil)))))) (.cons (.assign "edges" (.list .nil)) (.cons (.for1 ["k"] (.bi .range (.cons (.bin .Mod (.call (.lit (.ref 475)) (.cons (.loc "script") (.cons (.lit (.int 2)) .nil))) (.lit (.int 6))) .nil)) bodyU .nil) endN)) := rfl

theorem getP4 {a b c d : Addr} {i : Int} {R : AV → Hp → Prop} {H : Hp} (h0 : 0 ≤ i) (h4 : i < 4) (h : ∀ s ∈ [a, b, c, d], R (.ref s) H) : getP [.ref a, .ref b, .ref c, .ref d] i R H := by
  have : i = 0 ∨ i = 1 ∨ i = 2 ∨ i = 3 := by omega
  rcases this with rfl | rfl | rfl | rfl
  · exact h a (by simp)
  · exact h b (by simp)
  · exact h c (by simp)
  · exact h d (by simp)

/-- what the law's second loop works on -/
structure LawAt (H : Hp) (m : Loc) (xs : List Int) (es : List Ed) (sc el : Addr) : Prop where
  m1 : m "script" = some (.ref sc)
  m2 : m "edges" = some (.ref el)
  m3 : ∃ sl a b c d, m "solvers" = some (.ref sl) ∧ H sl = some (.list [.ref a, .ref b, .ref c, .ref d]) ∧ ∀ s ∈ [a, b, c, d], SvAt H s
  m4 : m ".0" = none
  m5 : m "point" = none
  rol : H sc = some (.rol xs)
  eds : EdsAt H el es
  ok : EOk es
  sm : es.length ≤ 6
theorem LawAt.chg {H H' : Hp} {m m' : Loc} {xs : List Int} {es : List Ed} {sc el : Addr} (A : LawAt H m xs es sc el) (c : Chg [] H H') (hm : ∀ y ∈ ["script", "edges", "solvers", ".0", "point"], m' y = m y) : LawAt H' m' xs es sc el where
  m1 := (hm _ (by simp)).trans A.m1
  m2 := (hm _ (by simp)).trans A.m2
  m3 := by
    obtain ⟨sl, a, b, x, d, h1, h2, h3⟩ := A.m3
    exact ⟨sl, a, b, x, d, (hm _ (by simp)).trans h1, c _ _ h2 (by simp), fun s hs => (h3 s hs).chg c⟩
  m4 := (hm _ (by simp)).trans A.m4
  m5 := (hm _ (by simp)).trans A.m5
  rol := c _ _ A.rol (by simp)
  eds := A.eds.chg c
  ok := A.ok
  sm := A.sm

section
variable {prog : Program} {w : World} {n : Nat} {H : Hp} {m : Loc} {xs : List Int} {es : List Ed} {sc el : Addr}

theorem sem_chosen (hn : 22 ≤ n) (A : LawAt H m xs es sc el) {nn : Int} (hm : m "n" = some (.int nn)) {K : AV → Hp → Prop}
    (qn : ∀ H', Chg [] H H' → (es.length = 0 ∨ ∀ f, SolP es.length (consE es nn) f → False) → K .none H')
    (qs : ∀ H' b f asg ep, Chg [] H H' → H' b = some (.dict asg ep) → SolP es.length (consE es nn) f → (∀ k, k < es.length → look asg (k : Int) = some (.int (f k))) → K (.ref b) H') :
    (semX (CX prog w n) m eChosen).v K H := by
  obtain ⟨sl, a, b, c, d, h1, h2, h3⟩ := A.m3
  simp only [eChosen, semX, semL, VT.of, A.m1, A.m2, h1, hm]
  refine ⟨Or.inl (by decide), cx_up (cx_num (k := 0) A.rol (by decide) ?_) (by omega)⟩
  simp only [binP, e_idx_list h2]
  refine ⟨by decide, by omega, getP4 (by omega) (by omega) fun s hs => ?_⟩
  obtain ⟨C, sdx, fb, g0, g1, g2, g3⟩ := h3 s hs
  exact ⟨Or.inl (by decide), cx_up (cx_480 g0 g1 g2 g3 A.eds A.sm qn qs) hn⟩

theorem sem_points (hn : 22 ≤ n) (A : LawAt H m xs es sc el) {nn : Int} (hm : m "n" = some (.int nn)) {K : AV → Hp → Prop}
    (q : ∀ kd : Int, (∀ H', Chg [] H H' → (∀ f, SolP 6 (consN es kd nn) f → False) → K .none H') ∧
      (∀ H' b f asg ep, Chg [] H H' → H' b = some (.dict asg ep) → SolP 6 (consN es kd nn) f → (∀ k : Nat, k < 6 → look asg (k : Int) = some (.int (f k))) → K (.ref b) H')) :
    (semX (CX prog w n) m ePoints).v K H := by
  obtain ⟨sl, a, b, c, d, h1, h2, h3⟩ := A.m3
  simp only [ePoints, semX, semL, VT.of, A.m1, A.m2, h1, hm]
  refine ⟨Or.inl (by decide), cx_up (cx_num (k := 1) A.rol (by decide) ?_) (by omega)⟩
  simp only [binP, e_idx_list h2]
  refine ⟨by decide, by omega, getP4 (by omega) (by omega) fun s hs => ?_⟩
  obtain ⟨C, sdx, fb, g0, g1, g2, g3⟩ := h3 s hs
  refine ⟨Or.inl (by decide), cx_up (cx_num (k := 0) A.rol (by decide) ?_) (by omega)⟩
  simp only [binP]
  refine ⟨by decide, by decide, Or.inl (by decide), ?_⟩
  obtain ⟨qn, qs⟩ := q (numAt xs 0 / 4 % 2)
  exact cx_up (cx_487 g0 g1 g2 g3 A.eds (fun e he => by have := A.ok.rng e he; omega) A.sm qn qs) hn
end
end Csp

namespace Csp
open PySem PySem.W PySem.Calls PyProof.Rows PySem.SeqAt Builtin Builtin.ObjectAttr

theorem intsAtL {H : Hp} {a : Addr} {l : List Nat} (h : H a = some (.list (l.map fun (k : Nat) => AV.int (k : Int)))) : intsOf H a = some (l.map fun (k : Nat) => (k : Int)) := by
  unfold intsOf
  rw [h]
  have : ((l.map fun (k : Nat) => AV.int (k : Int)).all AV.isInt) = true := by simp [AV.isInt]
  simp only [this, if_true, List.map_map]
  congr 1

section
variable {prog : Program} {w : World} {n : Nat} {H : Hp} {m : Loc} {xs : List Int} {es : List Ed} {sc el : Addr} {f g : Nat → Int}

theorem sem_ends (A : LawAt H m xs es sc el) {N : Nat} (hN : N ≤ 3) (hm : m "n" = some (.int (N : Int))) {ch : Addr} {asg : As} {ep : Nat} (s1 : m "chosen" = some (.ref ch)) (hch : H ch = some (.dict asg ep)) (F : SolP es.length (consE es N) f) (hl : ∀ k, k < es.length → look asg (k : Int) = some (.int (f k))) {K : Fl → Loc → Hp → Prop}
    (hK : ∀ H' v, Chg [] H H' → K .next (upL m "ends" v) H') : semSL (CX prog w n) bEnds K m H := by
  have E := A.eds
  have key : ∀ R : AV → Hp → Prop, (∀ acc H', Chg [] H H' → H' acc = some (.list ((endsL es f (List.range es.length)).map fun (k : Nat) => AV.int (k : Int))) → R (.ref acc) H') → (semX (CX prog w n) m eEnds).v R H := by
    intro R hR
    rw [eEnds]
    rw [show (semX (CX prog w n) m (.comp2 (.loc "point") "k" (.bi .range (.cons (.bi .len (.cons (.loc "edges") .nil)) .nil)) "point" (.idx (.loc "edges") (.loc "k")) (.cmp .NotEq (.idx (.loc "chosen") (.loc "k")) (.lit (.int 0))))).v R H = (semX (CX prog w n) m (.bi .range (.cons (.bi .len (.cons (.loc "edges") .nil)) .nil))).v (fun v H => match itemsOf H v with
      | some xs => (m ".0" = none ∧ m "point" = none) ∧ ∀ acc, Fresh H acc → compL2 (fun _ H' => sameSrc H H' v) (fun a => (semX (CX prog w n) (upL m "k" a) (.idx (.loc "edges") (.loc "k"))).v) (fun a b => (semX (CX prog w n) (upL (upL m "k" a) "point" b) (.cmp .NotEq (.idx (.loc "chosen") (.loc "k")) (.lit (.int 0)))).t) (fun a b => (semX (CX prog w n) (upL (upL m "k" a) "point" b) (.loc "point")).v) acc (fun H' => R (.ref acc) H') xs (upd H acc (.list []))
      | none => False) H from rfl]
    have kr : ∀ R : AV → Hp → Prop, (∀ rg, Fresh H rg → R (.ref rg) (upd H rg (.range 0 (es.length : Int)))) → (semX (CX prog w n) m (.bi .range (.cons (.bi .len (.cons (.loc "edges") .nil)) .nil))).v R H := by
      intro R hR
      simp only [semX, semL, VT.of, A.m2, biP, lenP, E.lst, List.length_map, rangeP, newP]
      have := A.sm
      exact ⟨by omega, hR⟩
    refine kr _ fun rg fr => ?_
    have c1 : Chg [] H (upd H rg (.range 0 (es.length : Int))) := (Chg.refl _ _).new fr
    have h1 : (upd H rg (.range 0 (es.length : Int))) rg = some (.range 0 (es.length : Int)) := upd_at
    generalize upd H rg (.range 0 (es.length : Int)) = H1 at c1 h1 ⊢
    simp only [e_items_range h1, range_items]
    refine ⟨⟨A.m4, A.m5⟩, fun acc fa => ?_⟩
    have c2 : Chg [] H1 (upd H1 acc (.list [])) := (Chg.refl _ _).new fa
    have h2 : (upd H1 acc (.list [])) acc = some (.list []) := upd_at
    generalize upd H1 acc (.list []) = H2 at c2 h2 ⊢
    have E1 := E.chg c1
    have ra : rg ≠ acc := fa.ne h1
    have accH : H acc = none := (fa.back c1).1
    have r2 := c2 _ _ h1 (by simp)
    refine loopEnds2 (prog := prog) (w := w) (n := n) (H0 := H1) (Hb := H2) (es := es) (el := el) (ch := ch) (asg := asg) (ep := ep) (f := f) (fun H' c => by simp only [sameSrc, h1, c _ _ r2 (by simpa using ra), and_self]) (E1.chg c2) ⟨fa.ne E1.lst, fun e he => fa.ne (E1.row e he)⟩ A.sm F.1 s1 A.m2 (c2 _ _ (c1 _ _ hch (by simp)) (by simp)) (fa.ne (c1 _ _ hch (by simp))) hl es.length 0 [] H2 (by simp) (by simp) (Chg.refl _ _) (by simpa using h2) fun H3 c3 h3 => ?_
    refine hR acc H3 (fun a x e _ => c3 a x (c2 a x (c1 a x e (by simp)) (by simp)) (by simp; rintro rfl; rw [accH] at e; cases e)) ?_
    rw [h3, List.nil_append, ← List.range_eq_range']
  rw [bEnds, semSL.eq_2, semS]
  refine key _ fun acc H1 c1 h1 => ?_
  have t1 : (upL m "ends" (.ref acc)) "ends" = some (.ref acc) := by simp [upL]
  have t2 : (upL m "ends" (.ref acc)) "n" = some (.int (N : Int)) := by simp [upL, hm]
  have hK := hK H1 (.ref acc) c1
  show semSL (CX prog w n) _ K (upL m "ends" (.ref acc)) H1
  generalize upL m "ends" (.ref acc) = m1 at t1 t2 hK ⊢
  obtain ⟨o1, o2⟩ := ends_ok A.ok F
  have o3 : (endsL es f (List.range es.length)).length ≤ 12 := by
    obtain ⟨q, _⟩ := ends_len F.1 es.length (Nat.le_refl _)
    have : ∀ l : List Nat, (l.map f).sum ≤ l.length := fun l => by
      induction l with
      | nil => simp
      | cons a r ih => rcases F.1 a with e | e <;> simp [e] <;> omega
    have := this (List.range es.length)
    have hsm := A.sm
    simp only [List.length_range] at this
    omega
  have hd : ∀ k, k = (endsL es f (List.range es.length)).length ↔ (((endsL es f (List.range es.length)).map fun (k : Nat) => (k : Int)).length = k) := fun k => by simp; omega
  have hnd : ((endsL es f (List.range es.length)).map fun (k : Nat) => (k : Int)).Nodup := by
    rw [List.nodup_iff_pairwise_ne, List.pairwise_map]
    exact (List.nodup_iff_pairwise_ne.mp o2).imp fun h e => h (by omega)
  rw [semSL.eq_2, semS]
  simp only [semX, semL, VT.of, t1, t2, biP, lenP, h1, binP, cmpP, List.length_map]
  refine ⟨by omega, ?_⟩
  have hlt : decide (((endsL es f (List.range es.length)).length : Int) < 2 * (N : Int)) = false := by simp; omega
  simp only [hlt, Bool.false_eq_true, if_false, t1, lensetP, intsAtL h1, List.length_map]
  refine ⟨o3, fun k hk => ?_⟩
  have : k = (endsL es f (List.range es.length)).length := hk.mpr hnd
  subst this
  simp only [lenP, h1, List.length_map, eqP, AV.isBool]
  refine ⟨trivial, ?_⟩
  simp only [beq_self_eq_true, Bool.not_true, Bool.false_eq_true, if_false, semSL.eq_1]
  exact hK

theorem sem_some (A : LawAt H m xs es sc el) {N : Nat} (hN : N ≤ 3) (hm : m "n" = some (.int (N : Int))) {kd : Int} {pt : Addr} {asg : As} {ep : Nat} (s1 : m "points" = some (.ref pt)) (hpt : H pt = some (.dict asg ep)) (G : SolP 6 (consN es kd N) g) (hl : ∀ k : Nat, k < 6 → look asg (k : Int) = some (.int (g k))) {K : Fl → Loc → Hp → Prop}
    (hK : ∀ H' v, Chg [] H H' → K .next (upL m "some" v) H') : semSL (CX prog w n) bSome K m H := by
  have E := A.eds
  have key : ∀ R : AV → Hp → Prop, (∀ acc H', Chg [] H H' → H' acc = some (.list ((someL g (List.range 6)).map fun (k : Nat) => AV.int (k : Int))) → R (.ref acc) H') → (semX (CX prog w n) m eSome).v R H := by
    intro R hR
    rw [show (semX (CX prog w n) m eSome).v R H = (semX (CX prog w n) m (.bi .range (.cons (.lit (.int 6)) .nil))).v (fun v H => match itemsOf H v with
      | some xs => m ".0" = none ∧ ∀ acc, Fresh H acc → compL (fun H' => sameSrc H H' v) (fun y => (semX (CX prog w n) (upL m "point" y) (.loc "point")).v) (fun y => semTs (CX prog w n) (upL m "point" y) (.cons (.cmp .NotEq (.idx (.loc "points") (.loc "point")) (.lit (.int 0))) .nil)) acc (fun H' => R (.ref acc) H') xs (upd H acc (.list []))
      | none => False) H from rfl]
    have kr : ∀ R : AV → Hp → Prop, (∀ rg, Fresh H rg → R (.ref rg) (upd H rg (.range 0 6))) → (semX (CX prog w n) m (.bi .range (.cons (.lit (.int 6)) .nil))).v R H := by
      intro R hR
      simp only [semX, semL, VT.of, biP, rangeP, newP]
      exact ⟨by decide, hR⟩
    refine kr _ fun rg fr => ?_
    have c1 : Chg [] H (upd H rg (.range 0 6)) := (Chg.refl _ _).new fr
    have h1 : (upd H rg (.range 0 6)) rg = some (.range 0 6) := upd_at
    generalize upd H rg (.range 0 6) = H1 at c1 h1 ⊢
    have items : (List.range ((6 : Int) - 0).toNat).map (fun (k : Nat) => AV.int (0 + (k : Int))) = (List.range' 0 6).map fun (k : Nat) => AV.int (k : Int) := range_items 6
    simp only [e_items_range h1]
    refine ⟨A.m4, fun acc fa => ?_⟩
    rw [items]
    have c2 : Chg [] H1 (upd H1 acc (.list [])) := (Chg.refl _ _).new fa
    have h2 : (upd H1 acc (.list [])) acc = some (.list []) := upd_at
    generalize upd H1 acc (.list []) = H2 at c2 h2 ⊢
    have ra : rg ≠ acc := fa.ne h1
    have accH : H acc = none := (fa.back c1).1
    have r2 := c2 _ _ h1 (by simp)
    refine loopSome (prog := prog) (w := w) (n := n) (H0 := H1) (Hb := H2) (pt := pt) (asg := asg) (ep := ep) (g := g) (fun H' c => by simp only [sameSrc, h1, c _ _ r2 (by simpa using ra), and_self]) s1 (c2 _ _ (c1 _ _ hpt (by simp)) (by simp)) (fa.ne (c1 _ _ hpt (by simp))) (tot := 6) (by decide) hl 6 0 [] H2 (by simp) (by simp) (Chg.refl _ _) (by simpa using h2) fun H3 c3 h3 => ?_
    refine hR acc H3 (fun a x e _ => c3 a x (c2 a x (c1 a x e (by simp)) (by simp)) (by simp; rintro rfl; rw [accH] at e; cases e)) ?_
    rw [h3, List.nil_append, ← List.range_eq_range']
  rw [bSome, semSL.eq_2, semS]
  refine key _ fun so H1 c1 h1 => ?_
  have t1 : (upL m "some" (.ref so)) "some" = some (.ref so) := by simp [upL]
  have t2 : (upL m "some" (.ref so)) "n" = some (.int (N : Int)) := by simp [upL, hm]
  have t3 : (upL m "some" (.ref so)) "edges" = some (.ref el) := by simp [upL, A.m2]
  have t4 : (upL m "some" (.ref so)) ".0" = none := by simp [upL, A.m4]
  have hK : ∀ H', Chg [] H H' → K .next (upL m "some" (.ref so)) H' := fun H' c => hK H' (.ref so) c
  show semSL (CX prog w n) _ K (upL m "some" (.ref so)) H1
  generalize upL m "some" (.ref so) = m1 at t1 t2 t3 t4 hK ⊢
  have hlen : ((someL g (List.range 6)).length : Int) ≤ N - 1 := by
    rw [some_len G.1]; exact cov_sum G
  have E1 := E.chg c1
  have unc : ∀ R : AV → Hp → Prop, (∀ acc H', Chg [] H1 H' → H' acc = some (.list []) → R (.ref acc) H') → (semX (CX prog w n) m1 eUnc).v R H1 := by
    intro R hR
    rw [show (semX (CX prog w n) m1 eUnc).v R H1 = (semX (CX prog w n) m1 (.loc "edges")).v (fun v H => match itemsOf H v with
      | some xs => m1 ".0" = none ∧ ∀ acc, Fresh H acc → compL (fun H' => sameSrc H H' v) (fun y => (semX (CX prog w n) (upL m1 "edge" y) (.loc "edge")).v) (fun y => semTs (CX prog w n) (upL m1 "edge" y) tUnc) acc (fun H' => R (.ref acc) H') xs (upd H acc (.list []))
      | none => False) H1 from rfl]
    have kr : ∀ R : AV → Hp → Prop, R (.ref el) H1 → (semX (CX prog w n) m1 (.loc "edges")).v R H1 := by
      intro R hR
      simp only [semX, VT.of, t3]; exact hR
    refine kr _ ?_
    simp only [e_items_list E1.lst]
    refine ⟨t4, fun acc fa => ?_⟩
    have c2 : Chg [] H1 (upd H1 acc (.list [])) := (Chg.refl _ _).new fa
    have h2 : (upd H1 acc (.list [])) acc = some (.list []) := upd_at
    generalize upd H1 acc (.list []) = H2 at c2 h2 ⊢
    refine loopUnc (prog := prog) (w := w) (n := n) (H0 := H1) (ss := someL g (List.range 6)) (so := so) (E1.chg c2) ⟨fa.ne E1.lst, fun e he => fa.ne (E1.row e he)⟩ E1.lst t1 (c2 _ _ h1 (by simp)) (fun e he => ?_) (hR acc H2 c2 h2) es fun _ h => h
    have r := A.ok.rng e he
    have mem : ∀ p, p < 6 → g p = 1 → p ∈ someL g (List.range 6) := fun p hp h => by
      unfold someL
      rw [List.mem_filter]
      exact ⟨by simpa using hp, by rw [h]; rfl⟩
    rcases cov_at G e he with h | h
    · exact Or.inl (mem _ (by omega) h)
    · exact Or.inr (mem _ (by omega) h)
  have hge : decide (((someL g (List.range 6)).length : Int) ≥ (N : Int)) = false := by simp; omega
  have cond : ∀ R : Bool → Hp → Prop, (∀ H', Chg [] H1 H' → R false H') → (semX (CX prog w n) m1 (.or2 (.cmp .GtE (.bi .len (.cons (.loc "some") .nil)) (.loc "n")) (.cmp .NotEq eUnc (.list .nil)))).t R H1 := by
    intro R hR
    rw [show (semX (CX prog w n) m1 (.or2 (.cmp .GtE (.bi .len (.cons (.loc "some") .nil)) (.loc "n")) (.cmp .NotEq eUnc (.list .nil)))).t R H1 = (semX (CX prog w n) m1 (.cmp .GtE (.bi .len (.cons (.loc "some") .nil)) (.loc "n"))).t (fun t => if t then R true else (semX (CX prog w n) m1 (.cmp .NotEq eUnc (.list .nil))).t R) H1 from rfl]
    have ka : ∀ R : Bool → Hp → Prop, R false H1 → (semX (CX prog w n) m1 (.cmp .GtE (.bi .len (.cons (.loc "some") .nil)) (.loc "n"))).t R H1 := by
      intro R hR
      simp only [semX, semL, VT.of, t1, t2, biP, lenP, h1, List.length_map, cmpP, hge]
      exact hR
    refine ka _ ?_
    simp only [Bool.false_eq_true, if_false]
    rw [show (semX (CX prog w n) m1 (.cmp .NotEq eUnc (.list .nil))).t R H1 = (semX (CX prog w n) m1 eUnc).v (fun x => (semX (CX prog w n) m1 (.list .nil)).v fun y => cmpP .NotEq x y R) H1 from rfl]
    refine unc _ fun acc H2 c2 h2 => ?_
    simp only [semX, semL, VT.of, newP]
    refine ⟨by simp, fun z fz => ?_⟩
    have h3 := upd_keep (x := .list []) fz h2
    simp only [cmpP, eqP, h3, upd_at, AV.isBool]
    refine ⟨trivial, trivial, ?_⟩
    exact hR _ (c2.new fz)
  rw [semSL.eq_2, semS]
  refine cond _ fun H2 c2 => ?_
  simp only [Bool.false_eq_true, if_false, semSL.eq_1]
  exact hK H2 (c1.trans c2)
end
end Csp

namespace Csp
open PySem PySem.W PySem.Calls PyProof.Rows PySem.SeqAt Builtin Builtin.ObjectAttr

section
variable {prog : Program} {w : World} {n : Nat} {H H0 : Hp} {m : Loc} {xs : List Int} {es : List Ed} {sc el : Addr} {f g : Nat → Int}

def stay : List String := ["script", "edges", "solvers", ".0", "point"]
theorem up_stay {m : Loc} {x : String} {v : AV} (h : x ∉ stay) : ∀ y ∈ stay, upL m x v y = m y := fun y hy => by
  have : y ≠ x := by rintro rfl; exact h hy
  simp [upL, this]

theorem semN (hn : 22 ≤ n) (A : LawAt H m xs es sc el) {N : Nat} (hN : N = 1 ∨ N = 2 ∨ N = 3) (hm : m "n" = some (.int (N : Int))) {K : Fl → Loc → Hp → Prop}
    (hK : ∀ m' H', Chg [] H H' → (∀ y ∈ stay, m' y = m y) → K .next m' H') : semSL (CX prog w n) bodyN K m H := by
  have hN3 : N ≤ 3 := by omega
  -- what the last two statements do
  have fin : ∀ (m2 : Loc) (H2 : Hp) (b : Bool), (match m2 "chosen", m2 "points" with
      | some .none, some (.ref _) => b = false
      | some (.ref _), some .none => b = true
      | _, _ => False) → (semSL (CX prog w n) (if b then bEnds else bSome) K m2 H2) →
      semSL (CX prog w n) (.cons (.ife (.cmp .Eq (.cmp .Is (.loc "chosen") (.lit .none)) (.cmp .Is (.loc "points") (.lit .none))) retF .nil) (.cons (.ife (.cmp .Is (.loc "points") (.lit .none)) bEnds bSome) .nil)) K m2 H2 := by
    intro m2 H2 b hb h
    have last : ∀ (c : S) (R : Fl → Loc → Hp → Prop), (semS (CX prog w n) c K m2 H2 → semSL (CX prog w n) (.cons c .nil) K m2 H2) := fun c R h => by
      rw [semSL.eq_2]
      have : (fun fl m' H' => match fl with
        | .next => semSL (CX prog w n) .nil K m' H'
        | fl => K fl m' H') = K := by
        funext fl m' H'
        cases fl <;> simp only [semSL.eq_1]
      show semS (CX prog w n) c (fun fl m' H' => match fl with
        | .next => semSL (CX prog w n) .nil K m' H'
        | fl => K fl m' H') m2 H2
      rw [this]; exact h
    cases h1 : m2 "chosen" with
    | none => rw [h1] at hb; exact hb.elim
    | some v1 =>
      cases h2 : m2 "points" with
      | none => rw [h1, h2] at hb; cases v1 <;> exact hb.elim
      | some v2 =>
        rw [h1, h2] at hb
        cases v1 <;> cases v2 <;> first | exact hb.elim | skip
        · subst hb
          rw [semSL.eq_2, semS]
          simp only [semX, VT.of, h1, h2, cmpP, isP, eqP]
          simp only [(by decide : (true == false) = false), Bool.false_eq_true, if_false, semSL.eq_1]
          refine last _ K ?_
          rw [semS]
          simp only [semX, VT.of, h2, cmpP, isP, Bool.false_eq_true, if_false]
          exact h
        · subst hb
          rw [semSL.eq_2, semS]
          simp only [semX, VT.of, h1, h2, cmpP, isP, eqP]
          simp only [(by decide : (false == true) = false), Bool.false_eq_true, if_false, semSL.eq_1]
          refine last _ K ?_
          rw [semS]
          simp only [semX, VT.of, h2, cmpP, isP, if_true]
          exact h
  -- the first statement's two outcomes, then the second's
  have two : ∀ (v1 : AV) (H1 : Hp), Chg [] H H1 →
      ((v1 = .none ∧ (es.length = 0 ∨ ∀ f, SolP es.length (consE es N) f → False)) ∨ ∃ b f asg ep, v1 = .ref b ∧ H1 b = some (.dict asg ep) ∧ SolP es.length (consE es N) f ∧ ∀ k, k < es.length → look asg (k : Int) = some (.int (f k))) →
      semSL (CX prog w n) (.cons (.assign "points" ePoints) (.cons (.ife (.cmp .Eq (.cmp .Is (.loc "chosen") (.lit .none)) (.cmp .Is (.loc "points") (.lit .none))) retF .nil) (.cons (.ife (.cmp .Is (.loc "points") (.lit .none)) bEnds bSome) .nil))) K (upL m "chosen" v1) H1 := by
    intro v1 H1 c1 hv
    have s1 := up_stay (m := m) (x := "chosen") (v := v1) (by decide)
    have A1 := A.chg c1 s1
    have n1 : (upL m "chosen" v1) "n" = some (.int (N : Int)) := by simp [upL, hm]
    rw [semSL.eq_2, semS]
    refine sem_points hn A1 n1 fun kd => ⟨fun H2 c2 no => ?_, fun H2 b g asg ep c2 h1 G hl => ?_⟩
    · have s2 := up_stay (m := upL m "chosen" v1) (x := "points") (v := .none) (by decide)
      rcases hv with ⟨rfl, hno⟩ | ⟨b, f, asg, ep, rfl, h1, F, hl⟩
      · exfalso
        rcases kon_exists A.ok N hN kd with ⟨h1, f, F⟩ | ⟨g, G⟩
        · rcases hno with h | h
          · omega
          · exact h f F
        · exact no g G
      · have c := c1.trans c2
        have A2 := A.chg c fun y hy => (s2 y hy).trans (s1 y hy)
        show semSL (CX prog w n) _ K _ H2
        refine fin _ H2 true (by simp [upL]) ?_
        simp only [if_true]
        refine sem_ends A2 hN3 (by simp [upL, hm]) (ch := b) (by simp [upL]) (c2 _ _ h1 (by simp)) F hl fun H3 v c3 => ?_
        exact hK _ H3 (c.trans c3) fun y hy => (up_stay (by decide) y hy).trans ((s2 y hy).trans (s1 y hy))
    · have s2 := up_stay (m := upL m "chosen" v1) (x := "points") (v := .ref b) (by decide)
      rcases hv with ⟨rfl, hno⟩ | ⟨b', f, asg', ep', rfl, h1', F, hl'⟩
      · have c := c1.trans c2
        have A2 := A.chg c fun y hy => (s2 y hy).trans (s1 y hy)
        show semSL (CX prog w n) _ K _ H2
        refine fin _ H2 false (by simp [upL]) ?_
        simp only [Bool.false_eq_true, if_false]
        refine sem_some A2 hN3 (by simp [upL, hm]) (pt := b) (by simp [upL]) h1 G hl fun H3 v c3 => ?_
        exact hK _ H3 (c.trans c3) fun y hy => (up_stay (by decide) y hy).trans ((s2 y hy).trans (s1 y hy))
      · exact (kon_not A.ok F G).elim
  rw [bodyN, semSL.eq_2, semS]
  refine sem_chosen hn A hm (fun H1 c1 no => ?_) fun H1 b f asg ep c1 h1 F hl => ?_
  · exact two .none H1 c1 (Or.inl ⟨rfl, no⟩)
  · exact two (.ref b) H1 c1 (Or.inr ⟨b, f, asg, ep, rfl, h1, F, hl⟩)

theorem loopN (hn : 22 ≤ n) {rg : Addr} (h0 : H0 rg = some (.range 1 4)) {Q : Fl → Loc → Hp → Prop} (q : ∀ m' H', Chg [] H0 H' → Q .next m' H') :
    ∀ (l : List Nat), (∀ N ∈ l, N = 1 ∨ N = 2 ∨ N = 3) → ∀ (m : Loc) (H : Hp), Chg [] H0 H → LawAt H m xs es sc el →
      forL (fun H' => sameSrc H0 H' (.ref rg)) (fun y Q' m' H' => bindT ["n"] y (fun m'' => semSL (CX prog w n) bodyN Q' m'') m' H') (semSL (CX prog w n) .nil) Q (l.map fun (k : Nat) => AV.int (k : Int)) m H
  | [], _, m, H, c, A => ⟨by simp only [sameSrc, h0, c _ _ h0 (by simp), and_self], by simp only [semSL.eq_1]; exact q m H c⟩
  | N :: r, h, m, H, c, A => by
    rw [List.map_cons, forL]
    refine ⟨by simp only [sameSrc, h0, c _ _ h0 (by simp), and_self], ?_⟩
    simp only [bindT]
    have s := up_stay (m := m) (x := "n") (v := .int (N : Int)) (by decide)
    refine semN hn (A.chg (Chg.refl [] H) s) (h N (by simp)) (by simp [upL]) fun m2 H2 c2 k2 => ?_
    exact loopN hn h0 q r (fun x hx => h x (by simp [hx])) m2 H2 (c.trans c2) (A.chg c2 fun y hy => (k2 y hy).trans (s y hy))
end
end Csp

namespace Csp
open PySem PySem.W PySem.Calls PyProof.Rows PySem.SeqAt Builtin Builtin.ObjectAttr

theorem rows_eds {H : Hp} : ∀ (es : List Ed), (∀ e ∈ es, H e.z = some (.list [.int e.a, .int e.b])) → rowsL H (es.map fun e => .ref e.z) = some (es.map fun e => [(e.a : Int), (e.b : Int)])
  | [], _ => rfl
  | e :: r, h => by
    have h1 : intsAt H (.ref e.z) = some [(e.a : Int), (e.b : Int)] := by
      simp only [intsAt, intsOf, h e (by simp)]
      rfl
    rw [List.map_cons, rowsL, h1, rows_eds r fun x hx => h x (by simp [hx])]
    rfl
theorem EOk.snoc {es : List Ed} (E : EOk es) {x : Ed} (h : x.a < 3 ∧ 3 ≤ x.b ∧ x.b < 6) (hn : ∀ e ∈ es, ¬(e.a = x.a ∧ e.b = x.b)) : EOk (es ++ [x]) where
  rng e he := by
    rcases List.mem_append.mp he with he | he
    · exact E.rng e he
    · obtain rfl := List.mem_singleton.mp he; exact h
  dis j k e e' hj hk ha hb := by
    have lt : ∀ {i : Nat} {y : Ed}, (es ++ [x])[i]? = some y → (i < es.length ∧ es[i]? = some y) ∨ (i = es.length ∧ y = x) := fun {i y} hi => by
      by_cases h : i < es.length
      · rw [List.getElem?_append_left h] at hi; exact Or.inl ⟨h, hi⟩
      · have h1 := (List.getElem?_eq_some_iff.mp hi).1
        simp at h1
        have h2 : i = es.length := by omega
        subst h2
        rw [List.getElem?_append_right (Nat.le_refl _)] at hi
        simp at hi
        exact Or.inr ⟨rfl, hi.symm⟩
    rcases lt hj with ⟨j1, j2⟩ | ⟨j1, rfl⟩ <;> rcases lt hk with ⟨k1, k2⟩ | ⟨k1, rfl⟩
    · exact E.dis j k e e' j2 k2 ha hb
    · exact absurd ⟨ha, hb⟩ (hn e (List.mem_of_getElem? j2))
    · exact absurd ⟨ha.symm, hb.symm⟩ (hn e' (List.mem_of_getElem? k2))
    · omega

section
variable {prog : Program} {w : World} {n : Nat} {H H0 : Hp} {m : Loc} {xs : List Int} {es : List Ed} {sc el : Addr} {f g : Nat → Int}

theorem eds_ne (E : EdsAt H el es) : ∀ e ∈ es, e.z ≠ el := fun e he h => by
  have h1 := E.row e he
  rw [h, E.lst] at h1
  injection h1 with h1; injection h1 with h1
  cases es with
  | nil => cases he
  | cons a r => simp at h1

theorem stepU (hn : 1 ≤ n) {i : Nat} (hi : i < 20) (E : EdsAt H el es) (ok : EOk es) (hz : es.length < 20) (hs : H sc = some (.rol xs)) (s1 : m "script" = some (.ref sc)) (s2 : m "edges" = some (.ref el)) (s3 : m "k" = some (.int (i : Int))) {K : Fl → Loc → Hp → Prop}
    (hK : ∀ m' H' es', Chg [el] H H' → (∀ y, y ≠ "u" → m' y = m y) → EdsAt H' el es' → EOk es' → es'.length ≤ es.length + 1 → K .next m' H') : semSL (CX prog w n) bodyU K m H := by
  rw [bodyU, semSL.eq_2, semS]
  simp only [semX, semL, VT.of, s1, s3, binP]
  rw [show ((3 : Int) + (i : Int)) = ((3 + i : Nat) : Int) by omega]
  refine ⟨Or.inl (by decide), cx_up (cx_num hs (by omega) ?_) hn⟩
  generalize numAt xs (3 + i) = u
  obtain ⟨a, ha⟩ : ∃ a : Nat, u % 3 = (a : Int) := ⟨(u % 3).toNat, by omega⟩
  obtain ⟨b, hb⟩ : ∃ b : Nat, 3 + u / 3 % 3 = (b : Int) := ⟨(3 + u / 3 % 3).toNat, by omega⟩
  have hrng : a < 3 ∧ 3 ≤ b ∧ b < 6 := by omega
  have t1 : (upL m "u" (.int u)) "u" = some (.int u) := by simp [upL]
  have t2 : (upL m "u" (.int u)) "edges" = some (.ref el) := by simp [upL, s2]
  have t0 : ∀ y, y ≠ "u" → (upL m "u" (.int u)) y = m y := fun y ny => by simp [upL, ny]
  show semSL (CX prog w n) _ K (upL m "u" (.int u)) H
  generalize upL m "u" (.int u) = m1 at t0 t1 t2 ⊢
  have lst : ∀ (R : AV → Hp → Prop) (H1 : Hp), (∀ z, Fresh H1 z → R (.ref z) (upd H1 z (.list [.int (a : Int), .int (b : Int)]))) → (semX (CX prog w n) m1 (.list (.cons (.bin .Mod (.loc "u") (.lit (.int 3))) (.cons (.bin .Add (.lit (.int 3)) (.bin .Mod (.bin .FloorDiv (.loc "u") (.lit (.int 3))) (.lit (.int 3)))) .nil)))).v R H1 := by
    intro R H1 hR
    simp only [semX, semL, VT.of, t1, binP, ha, hb, newP]
    exact ⟨by decide, by decide, by decide, by simp, hR⟩
  have cond : ∀ R : Bool → Hp → Prop, (∀ H', Chg [] H H' → R (!decide (∃ e ∈ es, e.a = a ∧ e.b = b)) H') → (semX (CX prog w n) m1 (.cmp .NotIn (.list (.cons (.bin .Mod (.loc "u") (.lit (.int 3))) (.cons (.bin .Add (.lit (.int 3)) (.bin .Mod (.bin .FloorDiv (.loc "u") (.lit (.int 3))) (.lit (.int 3)))) .nil))) (.loc "edges"))).t R H := by
    intro R hR
    rw [show (semX (CX prog w n) m1 (.cmp .NotIn (.list (.cons (.bin .Mod (.loc "u") (.lit (.int 3))) (.cons (.bin .Add (.lit (.int 3)) (.bin .Mod (.bin .FloorDiv (.loc "u") (.lit (.int 3))) (.lit (.int 3)))) .nil))) (.loc "edges"))).t R H = (semX (CX prog w n) m1 (.list (.cons (.bin .Mod (.loc "u") (.lit (.int 3))) (.cons (.bin .Add (.lit (.int 3)) (.bin .Mod (.bin .FloorDiv (.loc "u") (.lit (.int 3))) (.lit (.int 3)))) .nil)))).v (fun x => (semX (CX prog w n) m1 (.loc "edges")).v fun y => cmpP .NotIn x y R) H from rfl]
    refine lst _ H fun z fz => ?_
    have c1 : Chg [] H (upd H z (.list [.int (a : Int), .int (b : Int)])) := (Chg.refl _ _).new fz
    have h1 : (upd H z (.list [.int (a : Int), .int (b : Int)])) z = some (.list [.int (a : Int), .int (b : Int)]) := upd_at
    generalize upd H z (.list [.int (a : Int), .int (b : Int)]) = H1 at c1 h1 ⊢
    have E1 := E.chg c1
    have i1 : intsOf H1 z = some [(a : Int), (b : Int)] := by
      simp only [intsOf, h1]; rfl
    have i2 : rowsOf H1 el = some (es.map fun e => [(e.a : Int), (e.b : Int)]) := by
      simp only [rowsOf, E1.lst]
      exact rows_eds es E1.row
    simp only [semX, VT.of, t2, cmpP, inP, i1, i2]
    have : ((es.map fun e => [(e.a : Int), (e.b : Int)]).any fun x => x == [(a : Int), (b : Int)]) = decide (∃ e ∈ es, e.a = a ∧ e.b = b) := by
      rw [Bool.eq_iff_iff, List.any_eq_true, decide_eq_true_iff]
      constructor
      · rintro ⟨x, hx, h2⟩
        obtain ⟨e, he, rfl⟩ := List.mem_map.mp hx
        simp only [beq_iff_eq, List.cons.injEq, and_true] at h2
        exact ⟨e, he, by omega, by omega⟩
      · rintro ⟨e, he, h2, h3⟩
        exact ⟨_, List.mem_map.mpr ⟨e, he, rfl⟩, by rw [h2, h3]; simp⟩
    rw [this]
    exact hR H1 c1
  rw [semSL.eq_2, semS]
  refine cond _ fun H1 c1 => ?_
  have E1 := E.chg c1
  by_cases hin : ∃ e ∈ es, e.a = a ∧ e.b = b
  · simp only [hin, decide_true, Bool.not_true, Bool.false_eq_true, if_false, semSL.eq_1]
    exact hK m1 H1 es (c1.mono (by simp)) t0 E1 ok (by omega)
  · simp only [hin, decide_false, Bool.not_false, if_true]
    have ap : ∀ R : AV → Hp → Prop, (∀ z, Fresh H1 z → R .none (upd (upd H1 z (.list [.int (a : Int), .int (b : Int)])) el (.list ((es.map fun e => AV.ref e.z) ++ [.ref z])))) → (semX (CX prog w n) m1 (.meth (.loc "edges") "append" (.cons (.list (.cons (.bin .Mod (.loc "u") (.lit (.int 3))) (.cons (.bin .Add (.lit (.int 3)) (.bin .Mod (.bin .FloorDiv (.loc "u") (.lit (.int 3))) (.lit (.int 3)))) .nil))) .nil))).v R H1 := by
      intro R hR
      simp only [semX, semL, VT.of, t1, t2, e_meth_list E1.lst (by decide : "append" ≠ "preProcess"), listMeth, binP, ha, hb, newP]
      refine ⟨by decide, by decide, by decide, by simp, fun z fz => ?_⟩
      rw [e_app (upd_keep fz E1.lst)]
      exact ⟨by simp; unfold big; omega, hR z fz⟩
    rw [semSL.eq_2, semS]
    refine ap _ fun z fz => ?_
    simp only [semSL.eq_1]
    have nz : z ≠ el := (fz.ne E1.lst).symm
    have c2 : Chg [el] H1 (upd (upd H1 z (.list [.int (a : Int), .int (b : Int)])) el (.list ((es.map fun e => AV.ref e.z) ++ [.ref z]))) := ((Chg.refl [el] H1).new fz).upd (by simp)
    refine hK m1 _ (es ++ [⟨z, a, b⟩]) ((c1.mono (by simp)).trans c2) t0 ⟨by rw [upd_at]; simp, fun e he => ?_⟩ (ok.snoc hrng fun e he h => hin ⟨e, he, h.1, h.2⟩) (by simp)
    rcases List.mem_append.mp he with he | he
    · exact c2 _ _ (E1.row e he) (by simpa using eds_ne E1 e he)
    · obtain rfl := List.mem_singleton.mp he
      exact upd_old upd_at nz

theorem loopU (hn : 1 ≤ n) {rg : Addr} {lo hi : Int} (h0 : H0 rg = some (.range lo hi)) (hl : H0 el = some (.list [])) (hs : H0 sc = some (.rol xs)) {m0 : Loc} (s1 : m0 "script" = some (.ref sc)) (s2 : m0 "edges" = some (.ref el)) {tot : Nat} (ht : tot ≤ 6) {Q : Fl → Loc → Hp → Prop}
    (q : ∀ m' H' es, Chg [el] H0 H' → (∀ y, y ≠ "k" → y ≠ "u" → m' y = m0 y) → EdsAt H' el es → EOk es → es.length ≤ tot → Q .next m' H') :
    ∀ (r i : Nat) (es : List Ed) (m : Loc) (H : Hp), i + r = tot → (∀ y, y ≠ "k" → y ≠ "u" → m y = m0 y) → Chg [el] H0 H → EdsAt H el es → EOk es → es.length ≤ i →
      forL (fun H' => sameSrc H0 H' (.ref rg)) (fun y Q' m' H' => bindT ["k"] y (fun m'' => semSL (CX prog w n) bodyU Q' m'') m' H') (semSL (CX prog w n) .nil) Q ((List.range' i r).map fun (k : Nat) => AV.int (k : Int)) m H := by
  have nr : rg ≠ el := fun e => by rw [e, hl] at h0; cases h0
  have ns : sc ≠ el := fun e => by rw [e, hl] at hs; cases hs
  intro r
  induction r with
  | zero =>
    intro i es m H hi k1 c E ok hz
    exact ⟨by simp only [sameSrc, h0, c _ _ h0 (by simpa using nr), and_self], by simp only [semSL.eq_1]; exact q m H es c k1 E ok (by omega)⟩
  | succ r ih =>
    intro i es m H hi k1 c E ok hz
    rw [List.range'_succ, List.map_cons, forL]
    refine ⟨by simp only [sameSrc, h0, c _ _ h0 (by simpa using nr), and_self], ?_⟩
    simp only [bindT]
    have t0 : ∀ y, y ≠ "k" → y ≠ "u" → (upL m "k" (.int (i : Int))) y = m0 y := fun y n1 n2 => by rw [← k1 y n1 n2]; simp [upL, n1]
    refine stepU hn (i := i) (by omega) E ok (by omega) (c _ _ hs (by simpa using ns)) ((t0 _ (by decide) (by decide)).trans s1) ((t0 _ (by decide) (by decide)).trans s2) (by simp [upL]) fun m2 H2 es2 c2 k2 E2 ok2 hz2 => ?_
    exact ih (i + 1) es2 m2 H2 (by omega) (fun y n1 n2 => (k2 y n2).trans (t0 y n1 n2)) (c.trans c2) E2 ok2 (by omega)

theorem cx_492 (hs : H sc = some (.rol xs)) {Q : AV → Hp → Prop} (q : ∀ H', Chg [] H H' → Q (.bool true) H') : CX prog w 23 (.ref 492) [.ref sc] Q H := by
  refine cx_fn (n := 22) (ok492 w) (locOf [("script", .ref sc)]) (fun vv e => ?_) ?_
  · obtain ⟨x, rfl, e1⟩ := args1 e
    exact ⟨_, bind_492 w x, by simp only [List.map, e1]⟩
  have l1 : locOf [("script", .ref sc)] "script" = some (.ref sc) := rfl
  have l2 : locOf [("script", .ref sc)] ".0" = none := rfl
  have l3 : locOf [("script", .ref sc)] "point" = none := rfl
  generalize locOf [("script", .ref sc)] = m0 at l1 l2 l3 ⊢
  rw [b492_eq, semSL.eq_2, semS]
  simp only [semX, semL, VT.of]
  refine ⟨Or.inl (by decide), cx_up (cx_new186 fun a ax H1 fa c1 a1 a2 => ?_) (by decide)⟩
  refine ⟨Or.inl (by decide), cx_up (cx_new225 fun b bx H2 fb c2 b1 b2 => ?_) (by decide)⟩
  refine ⟨Or.inl (by decide), cx_up (cx_new186f fun c cx H3 fc c3 d1 d2 => ?_) (by decide)⟩
  refine ⟨Or.inl (by decide), cx_up (cx_new225f fun d dx H4 fd c4 e1 e2 => ?_) (by decide)⟩
  have S1 : SvAt H4 a := SvAt.chg ⟨186, ax, true, by decide, a1, a2, fa.2⟩ ((c2.trans c3).trans c4)
  have S2 : SvAt H4 b := SvAt.chg ⟨225, bx, true, by decide, b1, b2, fb.2⟩ (c3.trans c4)
  have S3 : SvAt H4 c := SvAt.chg ⟨186, cx, false, by decide, d1, d2, fc.2⟩ c4
  have S4 : SvAt H4 d := ⟨225, dx, false, by decide, e1, e2, fd.2⟩
  have c04 := ((c1.trans c2).trans c3).trans c4
  refine ⟨by simp, ?_⟩
  simp only [newP]
  intro sl fsl
  have c5 : Chg [] H4 (upd H4 sl (.list [.ref a, .ref b, .ref c, .ref d])) := (Chg.refl _ _).new fsl
  have h5 : (upd H4 sl (.list [.ref a, .ref b, .ref c, .ref d])) sl = some (.list [.ref a, .ref b, .ref c, .ref d]) := upd_at
  generalize upd H4 sl (.list [.ref a, .ref b, .ref c, .ref d]) = H5 at c5 h5 ⊢
  have hS : ∀ s ∈ [a, b, c, d], SvAt H5 s := fun s hs => by
    simp only [List.mem_cons, List.not_mem_nil, or_false] at hs
    rcases hs with rfl | rfl | rfl | rfl
    · exact S1.chg c5
    · exact S2.chg c5
    · exact S3.chg c5
    · exact S4.chg c5
  generalize hm1 : upL m0 "solvers" (.ref sl) = m1
  have t0 : ∀ y, y ≠ "solvers" → m1 y = m0 y := fun y ny => by rw [← hm1]; simp [upL, ny]
  have t1 : m1 "solvers" = some (.ref sl) := by rw [← hm1]; simp [upL]
  rw [semSL.eq_2, semS]
  simp only [semX, semL, VT.of, newP]
  refine ⟨by simp, fun el fel => ?_⟩
  have c6 : Chg [] H5 (upd H5 el (.list [])) := (Chg.refl _ _).new fel
  have h6 : (upd H5 el (.list [])) el = some (.list []) := upd_at
  have c06 := (c04.trans c5).trans c6
  have elH : H el = none := (fel.back (c04.trans c5)).1
  have el5 : H5 el = none := fel.1
  have h5' := c6 _ _ h5 (by simp)
  have hS' : ∀ s ∈ [a, b, c, d], SvAt (upd H5 el (.list [])) s := fun s hs => (hS s hs).chg c6
  generalize upd H5 el (.list []) = H6 at c6 h6 c06 h5' hS' ⊢
  generalize hm2 : upL m1 "edges" (.ref el) = m2
  have u0 : ∀ y, y ≠ "edges" → m2 y = m1 y := fun y ny => by rw [← hm2]; simp [upL, ny]
  have u1 : m2 "edges" = some (.ref el) := by rw [← hm2]; simp [upL]
  have u2 : m2 "script" = some (.ref sc) := (u0 _ (by decide)).trans ((t0 _ (by decide)).trans l1)
  have hs6 := c06 _ _ hs (by simp)
  rw [semSL.eq_2, semS]
  simp only [semX, semL, VT.of, u2]
  refine ⟨Or.inl (by decide), cx_up (cx_num (k := 2) hs6 (by decide) ?_) (by decide)⟩
  obtain ⟨tot, ht, ht6⟩ : ∃ t : Nat, numAt xs 2 % 6 = (t : Int) ∧ t ≤ 5 := ⟨(numAt xs 2 % 6).toNat, by omega, by omega⟩
  simp only [binP, ht, biP, rangeP, newP]
  refine ⟨by decide, by omega, fun rg fr => ?_⟩
  have c7 : Chg [] H6 (upd H6 rg (.range 0 (tot : Int))) := (Chg.refl _ _).new fr
  have h7 : (upd H6 rg (.range 0 (tot : Int))) rg = some (.range 0 (tot : Int)) := upd_at
  generalize upd H6 rg (.range 0 (tot : Int)) = H7 at c7 h7 ⊢
  simp only [e_items_range h7, range_items]
  refine loopU (prog := prog) (w := w) (n := 22) (H0 := H7) (el := el) (sc := sc) (xs := xs) (rg := rg) (by decide) h7 (c7 _ _ h6 (by simp)) (c7 _ _ hs6 (by simp)) u2 u1 (tot := tot) (by omega) (fun m8 H8 es c8 k8 E ok hz => ?_) tot 0 [] m2 H7 (by simp) (fun _ _ _ => rfl) (Chg.refl _ _) ⟨c7 _ _ h6 (by simp), by simp⟩ ⟨by simp, by simp⟩ (by simp)
  -- what was before the list of edges stays
  have c58 : Chg [] H5 H8 := fun x y e _ => c8 x y (c7 x y (c6 x y e (by simp)) (by simp)) (by simp; rintro rfl; rw [el5] at e; cases e)
  have c08 : Chg [] H H8 := (c04.trans c5).trans c58
  show semSL (CX prog w 22) endN _ m8 H8
  have A : LawAt H8 m8 xs es sc el := ⟨(k8 _ (by decide) (by decide)).trans u2, (k8 _ (by decide) (by decide)).trans u1, ⟨sl, a, b, c, d, (k8 _ (by decide) (by decide)).trans ((u0 _ (by decide)).trans t1), c58 _ _ h5 (by simp), fun s hs => (hS s hs).chg c58⟩, (k8 _ (by decide) (by decide)).trans ((u0 _ (by decide)).trans ((t0 _ (by decide)).trans l2)), (k8 _ (by decide) (by decide)).trans ((u0 _ (by decide)).trans ((t0 _ (by decide)).trans l3)), c08 _ _ hs (by simp), E, ok, by omega⟩
  rw [endN, semSL.eq_2, semS]
  simp only [semX, semL, VT.of, biP, rangeP, newP]
  refine ⟨by decide, fun r3 f3 => ?_⟩
  have c9 : Chg [] H8 (upd H8 r3 (.range 1 4)) := (Chg.refl _ _).new f3
  have h9 : (upd H8 r3 (.range 1 4)) r3 = some (.range 1 4) := upd_at
  generalize upd H8 r3 (.range 1 4) = H9 at c9 h9 ⊢
  simp only [e_items_range h9]
  have items : (List.range ((4 : Int) - 1).toNat).map (fun (k : Nat) => AV.int (1 + (k : Int))) = [1, 2, 3].map fun (k : Nat) => AV.int (k : Int) := rfl
  rw [items]
  refine loopN (prog := prog) (w := w) (n := 22) (H0 := H9) (rg := r3) (by decide) h9 (fun m10 H10 c10 => ?_) [1, 2, 3] (by simp) m8 H9 (Chg.refl _ _) (A.chg c9 fun _ _ => rfl)
  show semSL (CX prog w 22) _ _ m10 H10
  rw [semSL.eq_2, semS]
  simp only [semX, VT.of, retOf]
  exact q H10 ((c08.trans c9).trans c10)
end
end Csp

namespace Csp
open PySem PySem.W PySem.Calls PyProof.Rows PySem.SeqAt Builtin Builtin.ObjectAttr

/-- a mark that no object of a heap bears -/
theorem marker (h : Heap) : ∃ n : Nat, ∀ a o, h.get? a = some o → o.dict ≠ some n := by
  have key : ∀ l : List Obj, ∃ n : Nat, ∀ o ∈ l, ∀ d : Nat, o.dict = some d → d < n := by
    intro l
    induction l with
    | nil => exact ⟨0, by simp⟩
    | cons a r ih =>
      obtain ⟨n, hn⟩ := ih
      refine ⟨n + (match a.dict with | some d => (d : Nat) | none => 0) + 1, fun o ho d hd => ?_⟩
      rcases List.mem_cons.mp ho with rfl | ho
      · rw [hd]; show d < n + d + 1; omega
      · have := hn o ho d hd; omega
  obtain ⟨n, hn⟩ := key h.objs.toList
  refine ⟨n, fun a o e hd => ?_⟩
  have he : h.objs[a]? = some o := by
    unfold Heap.get? at e
    split at e
    · cases e
    · exact e
  have hm : o ∈ h.objs.toList := by
    rw [Array.mem_toList_iff]
    exact Array.mem_of_getElem? he
  exact Nat.lt_irrefl _ (hn o hm n hd)

theorem law492 {P : PySem.Params} {h : Heap} {mg : Str → Option Value} (X : (hd.heap_39 P).In h) (G : h.Ns mainGlobals mg) : mg (Str.ofString "law") = some (.ref 492) := by
  obtain ⟨o, es, ep, h1, h2, h3, h4⟩ := G
  rw [← h4]
  have k : (match (hd.heap_39 P).lookup mainGlobals with
    | some ⟨_, _, .dict es _, _⟩ => nsFind es (Str.ofString "law")
    | _ => none) = some (.ref 492) := by kernel_rfl
  split at k
  · rename_i c d es' ep' sl e
    have := X _ _ e
    rw [h1] at this
    cases this
    cases h2
    exact k
  · cases k
theorem good_true {args : List WData} {cl : Str → Option Addr} {mean : ExcName → Option Value} {s₁ s' : Shared} (K : OldK s₁.heap s'.heap) (ho : s'.os = s₁.os) (hg : AllBare s'.gens) :
    GoodWG PySem.Challenge.rw_bm0028_01.row.claim cl mean args s₁ (.ok (.ret (.bool true))) s' := by
  refine ⟨.inl ⟨.bool true, .bool true, [], rfl, fun cls => ?_, .bool true, ?_, fun h => ⟨List.nodup_nil, by simp⟩⟩, K, ho, hg⟩
  · rfl
  · kernel_rfl
theorem ints_abl {vs : List Value} {xs : List Int} (h : IntsAre vs xs) : vs.map ab = xs.map AV.int ∧ vs.length = xs.length := by
  induction h with
  | nil => exact ⟨rfl, rfl⟩
  | cons n t _ ih => exact ⟨by rw [List.map_cons, List.map_cons, ih.1]; rfl, by simp [ih.2]⟩
theorem k347 (w : World) : ((KK w).lookup 347).isSome = true := by kernel_rfl

/-- the law's call, from the head -/
theorem law_ends {prog : Program} {w : World} {s₁ : Shared} {L : Addr} {vs : List Value} {xs : List Int} {args : List WData} {cl : Str → Option Addr} {mean : ExcName → Option Value} {mb : Str → Option Value} (KX : (KK w).In s₁.heap) (Tb : s₁.heap.Ns builtinsNs mb)
    (Tbi : ∀ x : Str, x ≠ "__name__" → mb x = bootBuiltins x) (hg : s₁.gens = #[]) (hL : s₁.heap.IsList L vs.toArray) (hI : IntsAre vs xs) (hlen : xs.length ≤ 63) :
    codeAny (model prog w) callerA (.call (.ref 492) ⟨[.ref L], []⟩) (GoodWG PySem.Challenge.rw_bm0028_01.row.claim cl mean args s₁) s₁ := by
  obtain ⟨n, hn⟩ := marker s₁.heap
  obtain ⟨o, ho, hc, k, hd⟩ := hL
  obtain ⟨i1, i2⟩ := ints_abl hI
  have S : St prog w ⟨fun a => s₁.heap.get? a, (s₁.os, n), L⟩ (fun a => if a = L then some (.rol xs) else none) s₁ := by
    refine ⟨fun a o e => ⟨o, e, .inl rfl⟩, fun a x e => ?_, ?_, ⟨o, ho, _, _, hd⟩, by rw [hg]; exact AllBare.empty, rfl⟩
    · split at e
      · rename_i h; subst h; cases e
        exact ⟨o, ho, ⟨vs.toArray, k, hc, hd, by unfold abl; simpa using i1, by simp; unfold big; omega⟩, fun _ => ⟨ho, rfl⟩, fun q => by cases q⟩
      · cases e
    · obtain ⟨q, hq⟩ := Option.isSome_iff_exists.mp (k347 w)
      show (s₁.heap.get? 347).isSome = true
      rw [KX _ _ hq]; rfl
  have T : Stat [] w ⟨fun a => s₁.heap.get? a, (s₁.os, n), L⟩ := by
    refine ⟨fun a o e => KX a o e, ?_, by simp⟩
    obtain ⟨ob, es, ep, h1, h2, h3, h4⟩ := Tb
    exact ⟨ob, es, ep, h1, h2, h3, fun x hx => (h4 x).trans (Tbi x hx)⟩
  have R : Room [] callerA 23 := ⟨by decide, by decide, rfl, rfl⟩
  have c := cx_492 (prog := prog) (w := w) (H := fun a => if a = L then some (.rol xs) else none) (sc := L) (xs := xs) (Q := fun v _ => v = .bool true) (by simp) (fun _ _ => rfl) [] callerA _ (.ref 492) [.ref L] s₁ R T rfl rfl S
  refine codeAny_mono c ?_
  rintro res s' ⟨v, H', rfl, S', hv⟩
  obtain rfl := ab_bool hv
  refine good_true (.of_keep fun b o e => ?_) S'.os S'.gens
  obtain ⟨o', h1, h2⟩ := S'.keep b o e
  rcases h2 with rfl | ⟨_, h3, _⟩
  · exact h1
  · exact absurd h3 (hn b o e)
end Csp

open PySem PySem.W PyProof.Rows
theorem PySem.Challenge.cw_bm0028_01_holds : PySem.Challenge.rw_bm0028_01.Holds := by
  refine Csp.hd ?_
  k_fill
  intro w s₀ s₁ mg mb G Y fa o pm cd doc dV kV ho hd hcd hD hmg hg args vals as hpre hlay hrd hwl hlo
  have KX := kIn_of Y
  refine Ground.open G ?_
  intro T B D TE TW
  have hfa := Csp.law492 KX T.g
  have hfa2 : some (Value.ref fa) = some (Value.ref 492) := hmg.symm.trans hfa
  obtain rfl : fa = 492 := by injection hfa2 with h; injection h
  have tb := T.b
  have tbi := T.builtins
  clear hcd hD ho hd hmg hfa hfa2 T B D TE TW G Y
  wrow_args hpre hlay hrd hwl hlo
  all_goals (
    first | refine callC_kw (enter_call ?_) | refine enter_call ?_
    refine Csp.law_ends KX tb tbi hg (by assumption) (by assumption) ?_
    omega)
