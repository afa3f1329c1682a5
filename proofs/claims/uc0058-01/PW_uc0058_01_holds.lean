import PyProof.Rows.All
import Wide.All
import OpenK.AllK
import Wide.FinOn
import KE.KItem
import KE.KRevIter
import KE.KDictIter
import KE.KNest
import Lean
import PySem.Challenge.RW_uc0058_01
set_option Elab.async false
set_option linter.all false
set_option bootstrap.genMatcherCode false
set_option genSizeOf false
set_option genSizeOfSpec false
set_option maxRecDepth 100000
set_option maxHeartbeats 0
namespace Mine
open PySem PySem.W PyProof.Rows PySem.Calls PySem.Spec
set_option maxRecDepth 1000000

/-! ## a store of objects by number -/
theorem nos {α : Type} {x : α} {p : Prop} (h : none = some x) : p := nomatch h
theorem opq {G : Prop} (h : ∀ P : Prop, (G → P) → P) : G := h G id
theorem ife {α : Type} {c : Prop} [Decidable c] {x y z : α} (h : z = if c then x else y) (n : ¬ c) : z = y := h.trans (if_neg n)
theorem ifp {α : Type} {c : Prop} [Decidable c] {x y z : α} (h : z = if c then x else y) (n : c) : z = x := h.trans (if_pos n)
inductive Tr (α : Type) where
  | nil
  | node (v : Option α) (l r : Tr α)

noncomputable def Tr.get {α : Type} : Tr α → Nat → Option α
  | .nil, _ => none
  | .node v l r, i => match Nat.beq i 0 with
    | true => v
    | false => match Nat.beq (i % 2) 1 with
      | true => l.get (i / 2)
      | false => r.get (i / 2 - 1)
noncomputable def Tr.val {α : Type} : Tr α → Option α | .nil => none | .node v _ _ => v
noncomputable def Tr.lft {α : Type} : Tr α → Tr α | .nil => .nil | .node _ l _ => l
noncomputable def Tr.rgt {α : Type} : Tr α → Tr α | .nil => .nil | .node _ _ r => r
noncomputable def Tr.ins {α : Type} (x : α) : Nat → Tr α → Nat → Tr α
  | 0, t, _ => t
  | f + 1, t, i => match Nat.beq i 0 with
    | true => .node (some x) t.lft t.rgt
    | false => match Nat.beq (i % 2) 1 with
      | true => .node t.val (Tr.ins x f t.lft (i / 2)) t.rgt
      | false => .node t.val t.lft (Tr.ins x f t.rgt (i / 2 - 1))
theorem beq_dec (a b : Nat) : Nat.beq a b = decide (a = b) := by
  cases h : Nat.beq a b with
  | true => rw [Nat.eq_of_beq_eq_true h]; simp
  | false => have := Nat.ne_of_beq_eq_false h; simp [this]
theorem Tr.get_eq {α : Type} (t : Tr α) (i : Nat) : t.get i = if i = 0 then t.val else if i % 2 = 1 then t.lft.get (i / 2) else t.rgt.get (i / 2 - 1) := by
  cases t with
  | nil => simp [Tr.get, Tr.val, Tr.lft, Tr.rgt]
  | node v l r =>
    show (match Nat.beq i 0 with | true => v | false => match Nat.beq (i % 2) 1 with | true => l.get (i / 2) | false => r.get (i / 2 - 1)) = _
    rw [beq_dec, beq_dec]
    by_cases h : i = 0 <;> by_cases q : i % 2 = 1 <;> simp [h, q, Tr.val, Tr.lft, Tr.rgt]
theorem Tr.get_node {α : Type} (v : Option α) (l r : Tr α) (i : Nat) : (Tr.node v l r).get i = if i = 0 then v else if i % 2 = 1 then l.get (i / 2) else r.get (i / 2 - 1) := Tr.get_eq (.node v l r) i
theorem Tr.get_ins {α : Type} (x : α) : ∀ (f : Nat) (t : Tr α) (i j : Nat), i + 1 < 2 ^ f → (Tr.ins x f t i).get j = if j = i then some x else t.get j
  | 0, t, i, j, h => by simp at h
  | f + 1, t, i, j, h => by
    unfold Tr.ins
    rw [beq_dec, beq_dec, Tr.get_eq t j]
    have h' : i + 1 < 2 ^ f * 2 := by rw [Nat.pow_succ] at h; exact h
    by_cases h0 : i = 0
    · subst h0
      simp only [decide_true, Tr.get_node]
      by_cases hj : j = 0 <;> simp [hj]
    · by_cases h1 : i % 2 = 1
      · simp only [h0, h1, decide_false, decide_true, Tr.get_node]
        rw [Tr.get_ins x f t.lft (i / 2) (j / 2) (by lia)]
        by_cases hj : j = 0
        · have : ¬ 0 = i := by lia
          simp [hj, this]
        · by_cases hj1 : j % 2 = 1
          · by_cases e : j = i
            · subst e; simp [h0, h1]
            · have : ¬ j / 2 = i / 2 := by lia
              simp [hj, hj1, e, this]
          · have : ¬ j = i := by lia
            simp [hj, hj1, this]
      · simp only [h0, h1, decide_false, Tr.get_node]
        rw [Tr.get_ins x f t.rgt (i / 2 - 1) (j / 2 - 1) (by lia)]
        by_cases hj : j = 0
        · have : ¬ 0 = i := by lia
          simp [hj, this]
        · by_cases hj1 : j % 2 = 1
          · have : ¬ j = i := by lia
            simp [hj, hj1, this]
          · by_cases e : j = i
            · subst e; simp [h0, h1]
            · have : ¬ j / 2 - 1 = i / 2 - 1 := by lia
              simp [hj, hj1, e, this]

/-! ## values, objects -/
inductive Pc where
  | lit (s : List Nat)
  | oct (a b : Int)
inductive AV where
  | none
  | bool (b : Bool)
  | lin (a b : Int)
  | str (s : List Nat)
  | txt (l : List Pc)
  | ref (k : Nat)
  | wr (v : Value)
  | ty (n : Nat)
  | kref (k : Nat)
inductive AO where
  | list (l : List AV)
  | tup (l : List AV)
  | inst (C : Addr) (d : Nat)
  | dict (l : List (Nat × AV))
  | cell (v : Option AV)
  | liter (l : Nat) (i : Nat)
  | titer (l : Nat) (i : Nat)
  | fn (id : Nat) (caps : List Nat)
  | tab (id : Nat) (full : Bool)
  | pints (l : List Pc)
  | piter (l : Nat) (done : List Pc)
  | rng (a b : Int) (n : Nat)
  | rvit (l : Nat) (i : Int)
  | dead
structure Sto where
  next : Nat
  t : Tr AO
noncomputable def Sto.get (σ : Sto) (k : Nat) : Option AO := σ.t.get k
noncomputable def Sto.put (σ : Sto) (k : Nat) (o : AO) : Option Sto := match Nat.blt k 1000000 with
  | true => some { σ with t := Tr.ins o 21 σ.t k }
  | false => none
noncomputable def Sto.new (σ : Sto) (o : AO) : Option (Nat × Sto) := match σ.put σ.next o with
  | some σ' => some (σ.next, { σ' with next := σ.next + 1 })
  | none => none
theorem gB {γ : Type} {b : Bool} {x : Option γ} {r : γ} {P : Prop} (h : (match b with | true => x | false => none) = some r) (k : b = true → x = some r → P) : P := by
  cases b with
  | true => exact k rfl h
  | false => exact nos h
theorem gN {γ : Type} {σ : Option (Nat × Sto)} {f : Nat → Sto → Option γ} {r : γ} {P : Prop} (h : (match σ with | some (k, σ') => f k σ' | none => none) = some r) (k : ∀ j σ', σ = some (j, σ') → f j σ' = some r → P) : P := by
  cases σ with
  | none => exact nos h
  | some q => exact k q.1 q.2 rfl h
theorem Sto.put_get {σ σ' : Sto} {k : Nat} {o : AO} (h : σ.put k o = some σ') (j : Nat) : σ'.next = σ.next ∧ σ'.get j = if j = k then some o else σ.get j := by
  unfold Sto.put at h
  split at h
  · rename_i hb
    have hk : k < 1000000 := Nat.le_of_ble_eq_true hb
    cases Option.some.inj h
    refine ⟨rfl, ?_⟩
    show (Tr.ins o 21 σ.t k).get j = _
    rw [Tr.get_ins o 21 σ.t k j (by lia)]
    rfl
  · exact nos h
theorem Sto.new_get {σ σ' : Sto} {k : Nat} {o : AO} (h : σ.new o = some (k, σ')) (j : Nat) : k = σ.next ∧ σ'.next = σ.next + 1 ∧ σ'.get j = if j = k then some o else σ.get j := by
  unfold Sto.new at h
  split at h
  · rename_i σ₁ e
    cases Option.some.inj h
    exact ⟨rfl, rfl, (Sto.put_get e j).2⟩
  · exact nos h

/-- the octet's sign: what _law_sign gives -/
noncomputable def signOf (o : Nat) : Nat := if o < 32 ∨ o = 127 then o + 128 else o
/-- the octets of a number to the base 64, the highest first -/
noncomputable def octsGo : Nat → Nat → List Nat → List Nat
  | 0, _, acc => acc
  | f + 1, n, acc => if n > 63 then octsGo f (n / 64) (signOf (64 + n / 64 % 64) :: acc) else acc
noncomputable def octsOf (n : Nat) : List Nat := octsGo 64 n [signOf (n % 64)]
noncomputable def Pc.den (q : Int) : Pc → List Nat
  | .lit s => s
  | .oct a b => octsOf (a * q + b).toNat
noncomputable def denT (q : Int) : List Pc → List Nat
  | [] => []
  | p :: r => p.den q ++ denT q r
noncomputable def strN (l : List Nat) : Str := ⟨l.toArray⟩

/-- the names of the text, by number -/
noncomputable def nms : List String := ["S", "T", "raw", "count", "b", "n", "nt", "ch", "norm", "is_simple", "self", "ws", "trailing", "tabsize", "il", "i", "other", "a", "ts",
  "pad", "half_n", "mask", "b1", "b2", "q1", "r", "q2", "a12", "a3", "q", "a_digits", "x", "L", "R", "mid", "shift", "upper", "lower", "inner", "digits", "q_digits", "a_digit", "q_digit",
  "iterator", "val", "param", "value", "quote", "headers", "_headers", "k", "v", "name", "regex", "_value", "parts", "_params", "_name",
  "script", "cells", "times", "behind", "end", "near", "far", "deep", "steps", "told", "size", "here", "there", "pieces", "whole", "rest", "one", "row",
  "octet", "number", "signs", "d", "letters", "table", "text", "reader", "first", "e", "g", "f", "begin", "over", "net", "sign", "below", "above", "outer", "close", "second", "nets", "sizes", "laid", "due", "kv", ".0"]
noncomputable def nm (k : Nat) : Str := PySem.Str.ofString (nms.getD k "")
noncomputable def NN : Nat := 103

structure Wd where
  prog : Program
  w : World
  K : Frag
  p : Program
  loose : List Str
  mean : ExcName → Option Value
  mg : Str → Option Value
  mb : Str → Option Value
  q : Int

noncomputable def tyS : Nat → String
  | 0 => "str"
  | 1 => "int"
  | 2 => "list"
  | _ => "tuple"
section
variable (q : Int)
noncomputable def VR (ads : List Addr) : AV → Value → Prop
  | .none, v => v = .none
  | .bool b, v => v = .bool b
  | .lin a b, v => ∃ t, v = .int (a * q + b) t
  | .str s, v => ∃ t, v = .str (strN s) t
  | .txt l, v => ∃ t, v = .str (strN (denT q l)) t
  | .ref k, v => ∃ a, ads[k]? = some a ∧ v = .ref a
  | .wr u, v => v = u
  | .ty n, v => v = .type (tyS n)
  | .kref k, v => ∃ a, ads[k]? = some a ∧ v = .ref a ∧ sysModules < a
noncomputable def VRs (ads : List Addr) : List AV → List Value → Prop
  | [], [] => True
  | a :: as, v :: vs => VR q ads a v ∧ VRs ads as vs
  | _, _ => False
noncomputable def DR (P : Params) (ads : List Addr) : List (Nat × AV) → List DictEntry → Prop
  | [], [] => True
  | (k, a) :: r, e :: es => k < NN ∧ (∃ t, e.key = .str (nm k) t) ∧ e.hash = PyData.keyHash P (nm k) ∧ VR q ads a e.val ∧ DR P ads r es
  | _, _ => False
noncomputable def isCellObj (o : Obj) (v : Option Value) : Prop := o.data = .cell v
/-- closures: what a made function object is, by its number -/
structure FnSpec where
  fd : Nat → FuncData → Prop
inductive ListR (ads : List Addr) (l : List AV) (o : Obj) : Prop
  | mk (vs : List Value) (n : Nat) (e : o = listOf vs.toArray n) (r : VRs q ads l vs) : ListR ads l o
inductive TupR (ads : List Addr) (l : List AV) (o : Obj) : Prop
  | mk (vs : List Value) (n : Nat) (e : o = { cls := .type "tuple", data := .seq vs.toArray n }) (r : VRs q ads l vs) : TupR ads l o
inductive LitR (ads : List Addr) (l : Nat) (i : Int) (o : Obj) : Prop
  | mk (a : Addr) (ea : ads[l]? = some a) (c : o.cls = .type "list_iterator") (d : o.data = .fields #[.ref a, .int i 0]) : LitR ads l i o
noncomputable def OR (P : Params) (fs : Nat → List Addr → Obj → Prop) (ts : Nat → Bool → Obj → Prop) (ads : List Addr) : AO → Obj → Prop
  | .list l, o => ListR q ads l o
  | .tup l, o => TupR q ads l o
  | .inst C d, o => ∃ a, ads[d]? = some a ∧ o = instObj C a
  | .dict l, o => ∃ es n, o = dictOf es n ∧ DR q P ads l es
  | .cell none, o => o.data = .cell none
  | .cell (some a), o => ∃ v, o.data = .cell (some v) ∧ VR q ads a v
  | .liter l i, o => LitR ads l i o
  | .titer l i, o => ∃ a, ads[l]? = some a ∧ o.cls = .type "tuple_iterator" ∧ o.data = .fields #[.ref a, .int i 0]
  | .fn id caps, o => ∃ cs : List Addr, caps.map (fun c => ads[c]?) = cs.map some ∧ fs id cs o
  | .tab id full, o => ts id full o
  | .pints l, o => ∃ vs n, o = listOf vs.toArray n ∧ IntsAre vs ((denT q l).map Int.ofNat)
  | .piter l done, o => LitR ads l ((denT q done).length : Nat) o
  | .rng a b n, o => ∃ t u v e, (e = a * q + b + n ∨ (n = 0 ∧ e ≤ a * q + b ∧ -(2 ^ 62) ≤ e)) ∧ o = { cls := .type "range", data := .fields #[.int (a * q + b) t, .int e u, .int 1 v] }
  | .rvit l i, o => ∃ a, ads[l]? = some a ∧ o.cls = .type "list_reverseiterator" ∧ o.data = .fields #[.ref a, rawInt i]
  | .dead, _ => True

noncomputable def Ext (ads ads' : List Addr) : Prop := ∃ more, ads' = ads ++ more
theorem Ext.refl (ads : List Addr) : Ext ads ads := ⟨[], by simp⟩
theorem Ext.trans {a b c : List Addr} (x : Ext a b) (y : Ext b c) : Ext a c := by
  obtain ⟨m, rfl⟩ := x; obtain ⟨n, rfl⟩ := y; exact ⟨m ++ n, by simp⟩
theorem Ext.get {ads ads' : List Addr} (x : Ext ads ads') {k : Nat} {a : Addr} (h : ads[k]? = some a) : ads'[k]? = some a := by
  obtain ⟨m, hqq⟩ := x; subst hqq
  rw [List.getElem?_append_left (List.getElem?_eq_some_iff.mp h).1]; exact h
variable {q}
theorem VR.mono {ads ads' : List Addr} (x : Ext ads ads') {a : AV} {v : Value} (h : VR q ads a v) : VR q ads' a v := by
  cases a with
  | ref k => obtain ⟨a, e, r⟩ := h; exact ⟨a, x.get e, r⟩
  | kref k => obtain ⟨a, e, r⟩ := h; exact ⟨a, x.get e, r⟩
  | _ => exact h
theorem VRs.mono {ads ads' : List Addr} (x : Ext ads ads') : ∀ {as : List AV} {vs : List Value}, VRs q ads as vs → VRs q ads' as vs
  | [], [], _ => trivial
  | _ :: _, _ :: _, ⟨h, r⟩ => ⟨h.mono x, VRs.mono x r⟩
  | [], _ :: _, h => h.elim
  | _ :: _, [], h => h.elim
theorem DR.mono {P : Params} {ads ads' : List Addr} (x : Ext ads ads') : ∀ {as : List (Nat × AV)} {vs : List DictEntry}, DR q P ads as vs → DR q P ads' as vs
  | [], [], _ => trivial
  | (_, _) :: _, _ :: _, ⟨z, a, b, h, r⟩ => ⟨z, a, b, h.mono x, DR.mono x r⟩
  | [], _ :: _, h => h.elim
  | _ :: _, [], h => h.elim
theorem VRs.length {ads : List Addr} : ∀ {as : List AV} {vs : List Value}, VRs q ads as vs → as.length = vs.length
  | [], [], _ => rfl
  | _ :: _, _ :: _, ⟨_, r⟩ => by simp [VRs.length r]
  | [], _ :: _, h => h.elim
  | _ :: _, [], h => h.elim
theorem VRs.get {ads : List Addr} : ∀ {as : List AV} {vs : List Value}, VRs q ads as vs → ∀ {i : Nat} {a : AV}, as[i]? = some a → ∃ v, vs[i]? = some v ∧ VR q ads a v
  | [], [], _, i, a, e => by simp at e
  | a' :: _, v :: _, ⟨h, r⟩, 0, a, e => by simp at e; subst e; exact ⟨v, rfl, h⟩
  | _ :: _, _ :: _, ⟨_, r⟩, i + 1, a, e => by simp at e; simpa using VRs.get r e
  | [], _ :: _, h, _, _, _ => h.elim
  | _ :: _, [], h, _, _, _ => h.elim
theorem VRs.append {ads : List Addr} : ∀ {as bs : List AV} {vs ws : List Value}, VRs q ads as vs → VRs q ads bs ws → VRs q ads (as ++ bs) (vs ++ ws)
  | [], _, [], _, _, h => h
  | _ :: _, _, _ :: _, _, ⟨h, r⟩, h' => ⟨h, VRs.append r h'⟩
  | [], _, _ :: _, _, h, _ => h.elim
  | _ :: _, _, [], _, h, _ => h.elim
theorem VRs.set {ads : List Addr} {a : AV} {v : Value} (h : VR q ads a v) : ∀ {as : List AV} {vs : List Value}, VRs q ads as vs → ∀ (i : Nat), VRs q ads (as.set i a) (vs.set i v)
  | [], [], _, _ => trivial
  | _ :: _, _ :: _, ⟨_, r⟩, 0 => ⟨h, r⟩
  | _ :: _, _ :: _, ⟨x, r⟩, i + 1 => ⟨x, VRs.set h r i⟩
  | [], _ :: _, h', _ => h'.elim
  | _ :: _, [], h', _ => h'.elim
theorem caps_mono {ads ads' : List Addr} (x : Ext ads ads') : ∀ {caps : List Nat} {cs : List Addr}, caps.map (fun c => ads[c]?) = cs.map some → caps.map (fun c => ads'[c]?) = cs.map some
  | [], [], _ => rfl
  | c :: caps, a :: cs, h => by
    simp only [List.map_cons, List.cons.injEq] at h ⊢
    exact ⟨x.get h.1, caps_mono x h.2⟩
  | [], _ :: _, h => by simp at h
  | _ :: _, [], h => by simp at h
theorem OR.mono {P : Params} {fs : Nat → List Addr → Obj → Prop} {ts : Nat → Bool → Obj → Prop} {ads ads' : List Addr} (x : Ext ads ads') {o : AO} {b : Obj} (h : OR q P fs ts ads o b) : OR q P fs ts ads' o b := by
  cases o with
  | list l => obtain ⟨vs, n, e, r⟩ := h; exact ⟨vs, n, e, r.mono x⟩
  | tup l => obtain ⟨vs, n, e, r⟩ := h; exact ⟨vs, n, e, r.mono x⟩
  | inst C d => obtain ⟨a, e, r⟩ := h; exact ⟨a, x.get e, r⟩
  | dict l => obtain ⟨es, n, e, r⟩ := h; exact ⟨es, n, e, r.mono x⟩
  | cell v => cases v with
    | none => exact h
    | some a => obtain ⟨v, e, r⟩ := h; exact ⟨v, e, r.mono x⟩
  | liter l i => obtain ⟨a, e, r1, r2⟩ := h; exact ⟨a, x.get e, r1, r2⟩
  | titer l i => obtain ⟨a, e, r⟩ := h; exact ⟨a, x.get e, r⟩
  | fn id caps => obtain ⟨cs, e, r⟩ := h; exact ⟨cs, caps_mono x e, r⟩
  | tab id full => exact h
  | pints l => exact h
  | piter l done => obtain ⟨a, e, r1, r2⟩ := h; exact ⟨a, x.get e, r1, r2⟩
  | rng a b n => exact h
  | rvit l i => obtain ⟨a, e, r⟩ := h; exact ⟨a, x.get e, r⟩
  | dead => trivial
theorem VRs.one {ads : List Addr} {a : AV} {xs : List Value} (h : VRs q ads [a] xs) : ∃ x, xs = [x] ∧ VR q ads a x := by
  cases xs with
  | nil => exact h.elim
  | cons x r => cases r with
    | nil => exact ⟨x, rfl, h.1⟩
    | cons _ _ => exact h.2.elim
theorem VRs.two {ads : List Addr} {a b : AV} {xs : List Value} (h : VRs q ads [a, b] xs) : ∃ x y, xs = [x, y] ∧ VR q ads a x ∧ VR q ads b y := by
  cases xs with
  | nil => exact h.elim
  | cons x r =>
    obtain ⟨y, rfl, hy⟩ := VRs.one h.2
    exact ⟨x, y, rfl, h.1, hy⟩
end
theorem len1 {α : Type} {xs : List α} (h : xs.length = 1) : ∃ a, xs = [a] := by
  cases xs with
  | nil => cases h
  | cons a r => cases r with
    | nil => exact ⟨a, rfl⟩
    | cons _ _ => cases h
theorem len2 {α : Type} {xs : List α} (h : xs.length = 2) : ∃ a b, xs = [a, b] := by
  cases xs with
  | nil => cases h
  | cons a r =>
    obtain ⟨b, rfl⟩ := len1 (Nat.succ.inj h)
    exact ⟨a, b, rfl⟩
theorem len3 {α : Type} {xs : List α} (h : xs.length = 3) : ∃ a b c, xs = [a, b, c] := by
  cases xs with
  | nil => cases h
  | cons a r =>
    obtain ⟨b, c, rfl⟩ := len2 (Nat.succ.inj h)
    exact ⟨a, b, c, rfl⟩


noncomputable def look {α : Type} : List (Nat × α) → Nat → Option α
  | [], _ => none
  | p :: r, k => match Nat.beq p.1 k with | true => some p.2 | false => look r k
noncomputable def lput {α : Type} : List (Nat × α) → Nat → α → List (Nat × α)
  | [], k, v => [(k, v)]
  | p :: r, k, v => match Nat.beq p.1 k with | true => (k, v) :: r | false => p :: lput r k v
theorem look_lput {α : Type} (l : List (Nat × α)) (k : Nat) (v : α) (j : Nat) : look (lput l k v) j = if k = j then some v else look l j := by
  induction l with
  | nil => simp only [lput, look, beq_dec]; by_cases h : k = j <;> simp [h]
  | cons p r ih =>
    dsimp only [lput, look, beq_dec]
    by_cases h : p.1 = k
    · simp only [h, decide_true, look, beq_dec]
      by_cases q : k = j <;> simp [q]
    · simp only [h, decide_false, look, beq_dec, ih]
      by_cases q : p.1 = j
      · have : ¬ k = j := fun e => h (q.trans e.symm)
        simp [q, this]
      · simp [q]

structure Loc where
  loc : List (Nat × AV)
  cel : List (Nat × Nat)
structure Cx where
  A : Around
  base : Heap
  N : Addr
  env : Env
  pv : List (Addr × Obj) := []
  fz : List (Addr × Obj) := []
noncomputable abbrev Cx.al (cx : Cx) : List (Addr × Obj) := cx.pv ++ cx.fz
noncomputable def Cx.wp (cx : Cx) (pv : List (Addr × Obj)) : Cx := { cx with pv := pv }
/-- the worlds' data with what made functions and code tables are -/
structure Wo extends Wd where
  fs : Nat → List Addr → Obj → Prop
  ts : Nat → Bool → Obj → Prop

/-- kept as it is, a frame's slots apart -/
noncomputable def FrzO (x o : Obj) : Prop := o = x ∨ ((∀ vs, x.data ≠ .fields vs) ∧ ∃ sl, o = { x with slots := sl })
noncomputable def Pv (h : Heap) (p : Addr × Obj) : Prop := ∃ o, h.get? p.1 = some o ∧ FrzO p.2 o
theorem Pv.mp {h h' : Heap} {p : Addr × Obj} (x : Pv h p) (k : ∀ o, h.get? p.1 = some o → h'.get? p.1 = some o) : Pv h' p := by
  obtain ⟨o, e, r⟩ := x; exact ⟨o, k o e, r⟩
theorem Pv.exact {h : Heap} {a : Addr} {o : Obj} (x : Pv h (a, o)) (hc : ∃ vs, o.data = .fields vs) : h.get? a = some o := by
  obtain ⟨o', e, r⟩ := x
  rcases r with r | ⟨r, _⟩
  · simp only [e, r]
  · obtain ⟨vs, hc⟩ := hc
    exact absurd hc (r vs)
structure Ok (W : Wo) (n : Nat) (cx : Cx) : Prop where
  hh : cx.A.handled = none
  dp : cx.A.depth + n < recursionLimit
  un : cx.A.units + 8 * n + 100 < cLine
  kin : W.K.In cx.base
  top : Top W.p W.loose W.mean W.mg W.mb cx.base
  loc : cx.env.locals = cx.N
  fk : cx.env.scope.kind = .function
  gl : cx.env.globals = mainGlobals
  bi : cx.env.builtins = builtinsNs
  hq : 0 ≤ W.q ∧ W.q ≤ 1048576
  fr : ∃ b₀ fs, cx.A.frames = some fs ∧ ∀ h m, Fr cx.base cx.N h m → (∀ p ∈ cx.fz, Pv h p) → b₀.StaysIn h ∧ h.FunFrames b₀ fs

noncomputable abbrev ORw (W : Wo) (ads : List Addr) (a : AO) (o : Obj) : Prop := OR W.q W.w.params W.fs W.ts ads a o
inductive ObR (W : Wo) (ads : List Addr) (h : Heap) (k : Nat) (ao : AO) : Prop
  | mk (a : Addr) (o : Obj) (ea : ads[k]? = some a) (ho : h.get? a = some o) (r : ORw W ads ao o) : ObR W ads h k ao
structure St (W : Wo) (cx : Cx) (ads : List Addr) (ρ : Loc) (σ : Sto) (h : Heap) : Prop where
  fr : ∃ m, Fr cx.base cx.N h m ∧ ∀ k v, look ρ.loc k = some v → k < NN ∧ ∃ x, m (nm k) = some x ∧ VR W.q ads v x
  cel : ∀ k c, look ρ.cel k = some c → ∃ a, ads[c]? = some a ∧ cx.env.cells.lookup (nm k) = some a
  nd : ads.Nodup
  len : σ.next = ads.length
  new : ∀ a ∈ ads, a ≠ cx.N ∧ cx.base.get? a = none ∧ ∃ o, h.get? a = some o
  obj : ∀ k ao, σ.get k = some ao → ObR W ads h k ao
  pv : ∀ p ∈ cx.al, Pv h p ∧ p.1 ≠ cx.N ∧ p.1 ∉ ads ∧ cx.base.get? p.1 = none

theorem nodup_get {ads : List Addr} (nd : ads.Nodup) {i j : Nat} {a : Addr} (hi : ads[i]? = some a) (hj : ads[j]? = some a) : i = j := by
  obtain ⟨li, ei⟩ := List.getElem?_eq_some_iff.mp hi
  obtain ⟨lj, ej⟩ := List.getElem?_eq_some_iff.mp hj
  rcases Nat.lt_trichotomy i j with h | h | h
  · exact absurd (ei.trans ej.symm) (List.pairwise_iff_getElem.mp nd i j li lj h)
  · exact h
  · exact absurd (ej.trans ei.symm) (List.pairwise_iff_getElem.mp nd j i lj li h)
section
variable {W : Wo} {cx : Cx} {ads : List Addr} {ρ : Loc} {σ σ' : Sto} {h h' : Heap}
theorem St.mem (S : St W cx ads ρ σ h) {k : Nat} {a : Addr} (e : ads[k]? = some a) : a ≠ cx.N ∧ cx.base.get? a = none ∧ ∃ o, h.get? a = some o := S.new a (List.mem_of_getElem? e)
theorem St.grow (S : St W cx ads ρ σ h) (hk : ∀ b o, h.get? b = some o → h'.get? b = some o) : St W cx ads ρ σ h' := by
  refine ⟨?_, S.cel, S.nd, S.len, fun a ha => ?_, fun k ao e => ?_, fun p hp => ⟨(S.pv p hp).1.mp fun o e => hk _ _ e, (S.pv p hp).2⟩⟩
  · obtain ⟨m, F, r⟩ := S.fr
    exact ⟨m, F.keeps hk, r⟩
  · obtain ⟨a1, a2, o, e⟩ := S.new a ha
    exact ⟨a1, a2, o, hk _ _ e⟩
  · obtain ⟨a, o, e1, e2, e3⟩ := S.obj k ao e
    exact ⟨a, o, e1, hk _ _ e2, e3⟩
theorem St.ext (S : St W cx ads ρ σ h) {a : Addr} (hn : h.get? a = none) (hs : Heap.ExtBut a h h') : St W cx ads ρ σ h' :=
  S.grow fun b o e => hs b o (fun q => by rw [q, hn] at e; cases e) e
theorem St.fresh (S : St W cx ads ρ σ h) : h.get? h.objs.size = none := by
  cases q : h.get? h.objs.size with
  | none => rfl
  | some o => exact absurd (Heap.lt_size q) (Nat.lt_irrefl _)
theorem heap_fresh (h : Heap) : h.get? h.objs.size = none := by
  cases q : h.get? h.objs.size with
  | none => rfl
  | some o => exact absurd (Heap.lt_size q) (Nat.lt_irrefl _)
structure GrR (W : Wo) (cx : Cx) (ads : List Addr) (ρ : Loc) (σ : Sto) (h : Heap) (a : Addr) (k : Nat) : Prop where
  S : St W cx (ads ++ [a]) ρ σ h
  X : Ext ads (ads ++ [a])
  g : (ads ++ [a])[k]? = some a
theorem St.alloc (S : St W cx ads ρ σ h) (hk : ∀ b o, h.get? b = some o → h'.get? b = some o) {a : Addr} {o : Obj} {ao : AO} {k : Nat} (hn : h.get? a = none) (ho : h'.get? a = some o)
    (hor : ORw W ads ao o) (hσ : σ.new ao = some (k, σ')) : GrR W cx ads ρ σ' h' a k := by
  have X : Ext ads (ads ++ [a]) := ⟨[a], rfl⟩
  have hk0 : k = ads.length := (Sto.new_get hσ 0).1.trans S.len
  have here : (ads ++ [a])[k]? = some a := by simp only [hk0]; simp
  have na : a ∉ ads := fun hm => by obtain ⟨_, _, o', e⟩ := S.new a hm; cases (hn).symm.trans e
  refine ⟨⟨?_, ?_, ?_, ?_, ?_, ?_, fun p hp => ?_⟩, X, here⟩
  rotate_right
  · obtain ⟨p1, p2, p3, p4⟩ := S.pv p hp
    refine ⟨p1.mp fun o e => hk _ _ e, p2, fun hm => ?_, p4⟩
    rcases List.mem_append.mp hm with hm | hm
    · exact p3 hm
    · simp at hm
      obtain ⟨o', e', _⟩ := p1
      rw [hm, hn] at e'; cases e'
  · obtain ⟨m, F, r⟩ := S.fr
    refine ⟨m, F.keeps hk, fun j v e => ?_⟩
    obtain ⟨a1, x, a2, a3⟩ := r j v e
    exact ⟨a1, x, a2, a3.mono X⟩
  · intro j c e
    obtain ⟨b, e1, e2⟩ := S.cel j c e
    exact ⟨b, X.get e1, e2⟩
  · refine List.nodup_append.mpr ⟨S.nd, by simp, ?_⟩
    intro x hx y hy
    simp at hy
    replace hy := hy.symm; subst hy
    exact fun q => na (q ▸ hx)
  · simp only [(Sto.new_get hσ 0).2.1, S.len, List.length_append]; rfl
  · intro b hb
    rcases List.mem_append.mp hb with hb | hb
    · obtain ⟨a1, a2, o', e⟩ := S.new b hb
      exact ⟨a1, a2, o', hk _ _ e⟩
    · simp at hb
      subst hb
      obtain ⟨m, F, r⟩ := S.fr
      obtain ⟨oN, es, ep, hN, _⟩ := F.ns
      refine ⟨fun q => ?_, ?_, o, ho⟩
      · subst q; cases (hN).symm.trans hn
      cases q : cx.base.get? b with
      | none => rfl
      | some o' => cases (F.keep b o' q).symm.trans hn
  · intro j ao' e
    rw [(Sto.new_get hσ j).2.2] at e
    by_cases hj : j = k
    · subst hj
      replace e := (if_pos rfl).symm.trans e
      cases Option.some.inj e
      exact ⟨a, o, here, ho, OR.mono X hor⟩
    · replace e := (if_neg hj).symm.trans e
      obtain ⟨b, o', e1, e2, e3⟩ := S.obj j ao' e
      exact ⟨b, o', X.get e1, hk _ _ e2, OR.mono X e3⟩
theorem St.upd (S : St W cx ads ρ σ h) {k : Nat} {a : Addr} {o : Obj} {ao : AO} (ha : ads[k]? = some a) (hs : Heap.ExtBut a h h') (ho : h'.get? a = some o)
    (hor : ORw W ads ao o) (hσ : σ.put k ao = some σ') : St W cx ads ρ σ' h' := by
  obtain ⟨aN, aB, _⟩ := S.mem ha
  refine ⟨?_, S.cel, S.nd, (Sto.put_get hσ 0).1.trans S.len, fun b hb => ?_, fun j ao' e => ?_, fun p hp => ?_⟩
  rotate_right
  · obtain ⟨p1, p2, p3, p4⟩ := S.pv p hp
    exact ⟨p1.mp fun o e => hs _ _ (fun q => p3 (q ▸ List.mem_of_getElem? ha)) e, p2, p3, p4⟩
  · obtain ⟨m, F, r⟩ := S.fr
    refine ⟨m, ⟨F.ns.extBut hs (Ne.symm aN), fun b o' e => hs b o' (fun q => by rw [q, aB] at e; cases e) (F.keep b o' e), F.above⟩, r⟩
  · obtain ⟨a1, a2, o', e⟩ := S.new b hb
    by_cases q : b = a
    · subst q; exact ⟨a1, a2, o, ho⟩
    · exact ⟨a1, a2, o', hs _ _ q e⟩
  · rw [(Sto.put_get hσ j).2] at e
    by_cases hj : j = k
    · subst hj
      replace e := (if_pos rfl).symm.trans e
      cases Option.some.inj e
      exact ⟨a, o, ha, ho, hor⟩
    · replace e := (if_neg hj).symm.trans e
      obtain ⟨b, o', e1, e2, e3⟩ := S.obj j ao' e
      refine ⟨b, o', e1, hs _ _ (fun q => hj ?_) e2, e3⟩
      exact nodup_get S.nd e1 (q ▸ ha)
noncomputable def nmL : List (List Nat) := nms.map fun s => (PySem.Str.ofString s).cps.toList
theorem nmL_nodup : nmL.Nodup := by decide +kernel
theorem nmL_get {i : Nat} (h : i < NN) : nmL[i]? = some (nm i).cps.toList := by
  have hl : nms.length = NN := by decide
  unfold nmL nm
  simp only [List.getElem?_map, List.getElem?_eq_getElem (by rw [hl]; exact h), List.getD_eq_getElem?_getD, List.getElem?_eq_getElem (by rw [hl]; exact h)]
  rfl
theorem nm_inj {i j : Nat} (hi : i < NN) (hj : j < NN) (e : nm i = nm j) : i = j := by
  have h1 := nmL_get hi
  have h2 := nmL_get hj
  rw [← e] at h2
  obtain ⟨li, ei⟩ := List.getElem?_eq_some_iff.mp h1
  obtain ⟨lj, ej⟩ := List.getElem?_eq_some_iff.mp h2
  rcases Nat.lt_trichotomy i j with h | h | h
  · exact absurd (ei.trans ej.symm) (List.pairwise_iff_getElem.mp nmL_nodup i j li lj h)
  · exact h
  · exact absurd (ej.trans ei.symm) (List.pairwise_iff_getElem.mp nmL_nodup j i lj li h)
theorem St.store (S : St W cx ads ρ σ h) {m : Str → Option Value} {k : Nat} {v : AV} {x : Value} (hk : k < NN) (F : Fr cx.base cx.N h m)
    (hm : ∀ j u, look ρ.loc j = some u → j < NN ∧ ∃ y, m (nm j) = some y ∧ VR W.q ads u y) (hv : VR W.q ads v x)
    (hn : h'.Ns cx.N (fun y => if y = nm k then some x else m y)) (hs : Heap.SameBut cx.N h h') : St W cx ads { ρ with loc := lput ρ.loc k v } σ h' := by
  refine ⟨⟨_, F.set hn hs, fun j u e => ?_⟩, S.cel, S.nd, S.len, fun a ha => ?_, fun j ao e => ?_, fun p hp => ⟨(S.pv p hp).1.mp fun o e => (hs.2 _ (S.pv p hp).2.1).trans e, (S.pv p hp).2⟩⟩
  · rw [look_lput] at e
    by_cases q : k = j
    · subst q
      replace e := (if_pos rfl).symm.trans e
      cases Option.some.inj e
      exact ⟨hk, x, by simp, hv⟩
    · replace e := (if_neg q).symm.trans e
      obtain ⟨hj, y, e1, e2⟩ := hm j u e
      refine ⟨hj, y, ?_, e2⟩
      have : ¬ nm j = nm k := fun z => q (nm_inj hk hj z.symm)
      simp only [this, if_false]
      exact e1
  · obtain ⟨a1, a2, o, e⟩ := S.new a ha
    exact ⟨a1, a2, o, (hs.2 a a1).trans e⟩
  · obtain ⟨a, o, e1, e2, e3⟩ := S.obj j ao e
    exact ⟨a, o, e1, (hs.2 a (S.mem e1).1).trans e2, e3⟩
end

/-! ## the meaning of a tree -/
noncomputable abbrev Mo (α : Type) := Loc → Sto → Option (α × Loc × Sto)
noncomputable def ret {α : Type} (a : α) : Mo α := fun ρ σ => some (a, ρ, σ)
noncomputable def bnd {α β : Type} (d : Mo α) (g : α → Mo β) : Mo β := fun ρ σ => match d ρ σ with
  | some (a, ρ', σ') => g a ρ' σ'
  | none => none
noncomputable def bad {α : Type} : Mo α := fun _ _ => none
theorem bnd_some {α β : Type} {d : Mo α} {g : α → Mo β} {ρ : Loc} {σ : Sto} {r : β × Loc × Sto} (h : bnd d g ρ σ = some r) :
    ∃ a ρ₁ σ₁, d ρ σ = some (a, ρ₁, σ₁) ∧ g a ρ₁ σ₁ = some r := by
  unfold bnd at h
  split at h
  · rename_i a ρ₁ σ₁ e; exact ⟨a, ρ₁, σ₁, e, h⟩
  · injection h
theorem bnd_elim {α β : Type} {d : Mo α} {g : α → Mo β} {ρ : Loc} {σ : Sto} {r : β × Loc × Sto} {P : Prop} (h : bnd d g ρ σ = some r)
    (k : ∀ a ρ₁ σ₁, d ρ σ = some (a, ρ₁, σ₁) → g a ρ₁ σ₁ = some r → P) : P := by
  obtain ⟨a, ρ₁, σ₁, e1, e2⟩ := bnd_some h
  exact k a ρ₁ σ₁ e1 e2
section
variable {α β γ δ : Type} (W : Wo) (cx : Cx)
noncomputable def KK (R : List Addr → α → β → Prop) (ads : List Addr) (a : α) (ρ : Loc) (σ : Sto) (s : Shared) (Q : β → Shared → Prop) : Prop :=
  ∀ ads' b h' tk, Ext ads ads' → R ads' a b → St W cx ads' ρ σ h' → Q b { s with heap := h', toks := tk }
noncomputable def TAt (R : List Addr → α → β → Prop) (ads : List Addr) (t : Sem β) (d : Mo α) : Prop :=
  ∀ ρ σ a ρ' σ', d ρ σ = some (a, ρ', σ') → ∀ (s : Shared) (Q : β → Shared → Prop) (E : Value → Shared → Prop), St W cx ads ρ σ s.heap →
    KK W cx R ads a ρ' σ' s Q → wpAny (model W.prog W.w) cx.A t Q E s
noncomputable def T (R : List Addr → α → β → Prop) (t : Sem β) (d : Mo α) : Prop := ∀ ads, TAt W cx R ads t d
end
section
variable {α β γ δ : Type} {W : Wo} {cx : Cx} {R : List Addr → α → β → Prop} {R' : List Addr → γ → δ → Prop} {ads : List Addr} {t t' : Sem β} {d d' : Mo α}
theorem KK.of {a v : α} {ρ ρ' : Loc} {σ σ' : Sto} {s : Shared} {Q : β → Shared → Prop} (h : some (a, ρ, σ) = some (v, ρ', σ')) (k : KK W cx R ads v ρ' σ' s Q) : KK W cx R ads a ρ σ s Q := by
  cases Option.some.inj h
  exact k
theorem TAt.bind {f : β → Sem δ} {g : α → Mo γ} (h1 : TAt W cx R ads t d) (h2 : ∀ ads' a b, Ext ads ads' → R ads' a b → TAt W cx R' ads' (f b) (g a)) : TAt W cx R' ads (t >>= f) (bnd d g) := by
  intro ρ σ c ρ' σ' hd s Q E S k
  refine bnd_elim hd fun a ρ₁ σ₁ e1 e2 => ?_
  refine wpAny_bind (h1 _ _ _ _ _ e1 s _ _ S fun ads₁ b h₁ tk₁ X₁ r₁ S₁ => ?_)
  exact h2 ads₁ a b X₁ r₁ _ _ _ _ _ e2 _ _ _ S₁ fun ads₂ c' h₂ tk₂ X₂ r₂ S₂ => k ads₂ c' h₂ tk₂ (X₁.trans X₂) r₂ S₂
theorem TAt.ret {a : α} {b : β} (h : R ads a b) : TAt W cx R ads (pure b) (ret a) := by
  intro ρ σ c ρ' σ' hd s Q E S k
  replace k := KK.of hd k
  exact wpAny_pure (k ads b s.heap s.toks (.refl _) h S)
theorem TAt.bad {t : Sem β} : TAt W cx R ads t (bad : Mo α) := by
  intro ρ σ c ρ' σ' hd
  exact nos hd
theorem TAt.via (h : TAt W cx R ads t d) (hw : ∀ (s : Shared) (Q : β → Shared → Prop) (E : Value → Shared → Prop), wpAny (model W.prog W.w) cx.A t Q E s → wpAny (model W.prog W.w) cx.A t' Q E s) : TAt W cx R ads t' d := by
  intro ρ σ c ρ' σ' hd s Q E S k
  exact hw _ _ _ (h _ _ _ _ _ hd s Q E S k)
theorem TAt.imp {R₂ : List Addr → α → β → Prop} (h : TAt W cx R ads t d) (hr : ∀ ads' a b, Ext ads ads' → R ads' a b → R₂ ads' a b) : TAt W cx R₂ ads t d := by
  intro ρ σ c ρ' σ' hd s Q E S k
  exact h _ _ _ _ _ hd s Q E S fun ads₁ b h₁ tk₁ X₁ r₁ S₁ => k ads₁ b h₁ tk₁ X₁ (hr _ _ _ X₁ r₁) S₁
theorem TAt.holding {vs : List Value} (h : TAt W cx R ads t d) : TAt W cx R ads (holding vs t) d := h.via fun _ _ _ x => wpAny_holding x
end

noncomputable abbrev VRw (W : Wo) (ads : List Addr) (a : AV) (v : Value) : Prop := VR W.q ads a v
inductive Fl where
  | next | brk | cont
  | ret (v : AV)
noncomputable def FR (W : Wo) (ads : List Addr) : Fl → Flow → Prop
  | .next, f => f = .next
  | .brk, f => f = .brk
  | .cont, f => f = .cont
  | .ret v, f => ∃ x, f = .ret x ∧ VR W.q ads v x
noncomputable def BR (_ : List Addr) (a b : Bool) : Prop := a = b
noncomputable def UR (_ : List Addr) (_ _ : Unit) : Prop := True
/-- an expression, a test, a statement, a block -/
noncomputable abbrev TE (W : Wo) (cx : Cx) (e : Expr) (d : Mo AV) : Prop := T W cx (VRw W) (eval e cx.env) d
noncomputable abbrev TB (W : Wo) (cx : Cx) (e : Expr) (d : Mo Bool) : Prop := T W cx BR (PySem.isTrue e cx.env (eval e cx.env)) d
noncomputable abbrev TS (W : Wo) (cx : Cx) (e : Stmt) (d : Mo Fl) : Prop := T W cx (FR W) (exec e cx.env) d
noncomputable abbrev TSs (W : Wo) (cx : Cx) (e : List Stmt) (d : Mo Fl) : Prop := T W cx (FR W) (execs e cx.env) d
noncomputable abbrev OpR (W : Wo) (cx : Cx) (t : Value → Value → Sem Value) (f : AV → AV → Mo AV) : Prop :=
  ∀ ads a b x y, VR W.q ads a x → VR W.q ads b y → TAt W cx (VRw W) ads (t x y) (f a b)

section
variable {W : Wo} {cx : Cx}
theorem sBin {l r : Expr} {op : Operator} {pos : Pos} {dl dr : Mo AV} {f : AV → AV → Mo AV} (hl : TE W cx l dl) (hr : TE W cx r dr) (ho : OpR W cx (binaryOp op) f) :
    TE W cx (.BinOp l op r pos) (bnd dl fun a => bnd dr fun b => f a b) := by
  intro ads ρ σ v ρ' σ' hd s Q E S k
  refine bnd_elim hd fun a ρ₁ σ₁ e1 hd => ?_
  refine bnd_elim hd fun b ρ₂ σ₂ e2 hd => ?_
  refine wpAny_BinOp (hl _ _ _ _ _ _ e1 s _ _ S fun ads₁ x h₁ tk₁ X₁ r₁ S₁ => ?_)
  refine hr _ _ _ _ _ _ e2 _ _ _ S₁ fun ads₂ y h₂ tk₂ X₂ r₂ S₂ => ?_
  exact ho ads₂ a b x y (VR.mono X₂ r₁) r₂ _ _ _ _ _ hd _ _ _ S₂ fun ads₃ z h₃ tk₃ X₃ r₃ S₃ => k ads₃ z h₃ tk₃ (X₁.trans (X₂.trans X₃)) r₃ S₃
theorem sCmp {l r : Expr} {op : CmpOp} {pos : Pos} {dl dr : Mo AV} {f : AV → AV → Mo AV} (hl : TE W cx l dl) (hr : TE W cx r dr) (ho : OpR W cx (compareOp op) f) (hb : behindInMarks op r = false := by rfl) :
    TE W cx (.Compare l [op] [r] pos) (bnd dl fun a => bnd dr fun b => f a b) := by
  intro ads ρ σ v ρ' σ' hd s Q E S k
  refine bnd_elim hd fun a ρ₁ σ₁ e1 hd => ?_
  refine bnd_elim hd fun b ρ₂ σ₂ e2 hd => ?_
  refine wpAny_Compare1 (hl _ _ _ _ _ _ e1 s _ _ S fun ads₁ x h₁ tk₁ X₁ r₁ S₁ => ?_) hb
  refine hr _ _ _ _ _ _ e2 _ _ _ S₁ fun ads₂ y h₂ tk₂ X₂ r₂ S₂ => ?_
  exact ho ads₂ a b x y (VR.mono X₂ r₁) r₂ _ _ _ _ _ hd _ _ _ S₂ fun ads₃ z h₃ tk₃ X₃ r₃ S₃ => k ads₃ z h₃ tk₃ (X₁.trans (X₂.trans X₃)) r₃ S₃
noncomputable def tru : AV → Mo Bool
  | .bool b => ret b
  | _ => bad
theorem sCmpT {l r : Expr} {op : CmpOp} {pos : Pos} {dl dr : Mo AV} {f : AV → AV → Mo AV} (hl : TE W cx l dl) (hr : TE W cx r dr) (ho : OpR W cx (compareOp op) f) (hb : behindInMarks op r = false := by rfl) :
    TB W cx (.Compare l [op] [r] pos) (bnd dl fun a => bnd dr fun b => bnd (f a b) tru) := by
  intro ads ρ σ v ρ' σ' hd s Q E S k
  refine bnd_elim hd fun a ρ₁ σ₁ e1 hd => ?_
  refine bnd_elim hd fun b ρ₂ σ₂ e2 hd => ?_
  refine bnd_elim hd fun c ρ₃ σ₃ e3 hd => ?_
  refine wpAny_isTrue_Compare1 (hl _ _ _ _ _ _ e1 s _ _ S fun ads₁ x h₁ tk₁ X₁ r₁ S₁ => ?_) hb
  refine hr _ _ _ _ _ _ e2 _ _ _ S₁ fun ads₂ y h₂ tk₂ X₂ r₂ S₂ => ?_
  refine ho ads₂ a b x y (VR.mono X₂ r₁) r₂ _ _ _ _ _ e3 _ _ _ S₂ fun ads₃ z h₃ tk₃ X₃ r₃ S₃ => ?_
  cases c with
  | bool b =>
    replace k := KK.of hd k
    subst r₃
    exact wpAny_truthy_bool (k ads₃ _ h₃ tk₃ (X₁.trans (X₂.trans X₃)) rfl S₃)
  | _ => cases hd
theorem sUn {x : Expr} {op : UnaryOp} {pos : Pos} {dx : Mo AV} {f : AV → Mo AV} (hx : TE W cx x dx) (ho : ∀ ads a v, VR W.q ads a v → TAt W cx (VRw W) ads (unaryOp op v) (f a)) :
    TE W cx (.UnaryOp op x pos) (bnd dx f) := by
  intro ads ρ σ v ρ' σ' hd s Q E S k
  refine bnd_elim hd fun a ρ₁ σ₁ e1 hd => ?_
  refine wpAny_UnaryOp (hx _ _ _ _ _ _ e1 s _ _ S fun ads₁ x h₁ tk₁ X₁ r₁ S₁ => ?_)
  exact ho ads₁ a x r₁ _ _ _ _ _ hd _ _ _ S₁ fun ads₃ z h₃ tk₃ X₃ r₃ S₃ => k ads₃ z h₃ tk₃ (X₁.trans X₃) r₃ S₃
/-- a choice by a known bool -/
noncomputable def ifM {α : Type} (d : Mo Bool) (x y : Mo α) : Mo α := bnd d fun b => match b with | true => x | false => y
theorem sIfExp {test body orelse : Expr} {pos : Pos} {dt : Mo Bool} {db de : Mo AV} (ht : TB W cx test dt) (hb : TE W cx body db) (he : TE W cx orelse de) : TE W cx (.IfExp test body orelse pos) (ifM dt db de) := by
  intro ads ρ σ v ρ' σ' hd s Q E S k
  refine bnd_elim hd fun a ρ₁ σ₁ e1 hd => ?_
  refine wpAny_IfExp (ht _ _ _ _ _ _ e1 s _ _ S fun ads₁ x h₁ tk₁ X₁ r₁ S₁ => ?_)
  subst r₁
  cases a with
  | true => exact hb _ _ _ _ _ _ hd _ _ _ S₁ fun ads₃ z h₃ tk₃ X₃ r₃ S₃ => k ads₃ z h₃ tk₃ (X₁.trans X₃) r₃ S₃
  | false => exact he _ _ _ _ _ _ hd _ _ _ S₁ fun ads₃ z h₃ tk₃ X₃ r₃ S₃ => k ads₃ z h₃ tk₃ (X₁.trans X₃) r₃ S₃
theorem sIf {test : Expr} {body orelse : List Stmt} {pos : Pos} {dt : Mo Bool} {db de : Mo Fl} (ht : TB W cx test dt) (hb : TSs W cx body db) (he : TSs W cx orelse de) : TS W cx (.If test body orelse pos) (ifM dt db de) := by
  intro ads ρ σ v ρ' σ' hd s Q E S k
  refine bnd_elim hd fun a ρ₁ σ₁ e1 hd => ?_
  refine wpAny_If (ht _ _ _ _ _ _ e1 s _ _ S fun ads₁ x h₁ tk₁ X₁ r₁ S₁ => ?_)
  subst r₁
  cases a with
  | true => exact hb _ _ _ _ _ _ hd _ _ _ S₁ fun ads₃ z h₃ tk₃ X₃ r₃ S₃ => k ads₃ z h₃ tk₃ (X₁.trans X₃) r₃ S₃
  | false => exact he _ _ _ _ _ _ hd _ _ _ S₁ fun ads₃ z h₃ tk₃ X₃ r₃ S₃ => k ads₃ z h₃ tk₃ (X₁.trans X₃) r₃ S₃
noncomputable def seqM (d : Mo Fl) (e : Mo Fl) : Mo Fl := bnd d fun f => match f with
  | .next => e
  | f => ret f
theorem sNil : TSs W cx [] (ret .next) := fun _ => TAt.ret (R := FR W) rfl
theorem sCons {st : Stmt} {rest : List Stmt} {d e : Mo Fl} (h1 : TS W cx st d) (h2 : TSs W cx rest e) : TSs W cx (st :: rest) (seqM d e) := by
  intro ads ρ σ v ρ' σ' hd s Q E S k
  refine bnd_elim hd fun a ρ₁ σ₁ e1 hd => ?_
  refine wpAny_execs_cons (h1 _ _ _ _ _ _ e1 s _ _ S fun ads₁ x h₁ tk₁ X₁ r₁ S₁ => ?_)
  cases a with
  | next => subst r₁; exact h2 _ _ _ _ _ _ hd _ _ _ S₁ fun ads₃ z h₃ tk₃ X₃ r₃ S₃ => k ads₃ z h₃ tk₃ (X₁.trans X₃) r₃ S₃
  | brk => cases r₁; cases hd; exact k ads₁ _ h₁ tk₁ X₁ rfl S₁
  | cont => cases r₁; cases hd; exact k ads₁ _ h₁ tk₁ X₁ rfl S₁
  | ret v => obtain ⟨x, rfl, r₁⟩ := r₁; cases hd; exact k ads₁ _ h₁ tk₁ X₁ ⟨x, rfl, r₁⟩ S₁
theorem sRet {e : Expr} {pos : Pos} {d : Mo AV} (h : TE W cx e d) : TS W cx (.Return (some e) pos) (bnd d fun v => ret (.ret v)) := by
  intro ads ρ σ v ρ' σ' hd s Q E S k
  refine bnd_elim hd fun a ρ₁ σ₁ e1 hd => ?_
  replace k := KK.of hd k
  exact wpAny_Return_some (h _ _ _ _ _ _ e1 s _ _ S fun ads₁ x h₁ tk₁ X₁ r₁ S₁ => k ads₁ _ h₁ tk₁ X₁ ⟨x, rfl, r₁⟩ S₁)
theorem sRetNone {pos : Pos} : TS W cx (.Return none pos) (ret (.ret .none)) := by
  intro ads ρ σ v ρ' σ' hd s Q E S k
  replace k := KK.of hd k
  exact wpAny_Return_none (k ads _ s.heap s.toks (.refl _) ⟨.none, rfl, rfl⟩ S)
theorem sBrk {pos : Pos} : TS W cx (.Break pos) (ret .brk) := by
  intro ads ρ σ v ρ' σ' hd s Q E S k
  replace k := KK.of hd k
  exact wpAny_Break (k ads _ s.heap s.toks (.refl _) rfl S)
theorem sExpr {e : Expr} {pos : Pos} {d : Mo AV} (h : TE W cx e d) (hi : cx.env.scope.kind = .function) (hs : ∀ env, swapsWith e none (Pos.line pos) env = pure false := by intro _; rfl) : TS W cx (.Expr e pos) (bnd d fun _ => ret .next) := by
  intro ads ρ σ v ρ' σ' hd s Q E S k
  refine bnd_elim hd fun a ρ₁ σ₁ e1 hd => ?_
  replace k := KK.of hd k
  exact wpAny_Expr_any (h _ _ _ _ _ _ e1 s _ _ S fun ads₁ x h₁ tk₁ X₁ r₁ S₁ => k ads₁ _ h₁ tk₁ X₁ rfl S₁) (by dsimp only [interactive]; rw [hi]; rfl) (hs _)
theorem sInt {i : Int} {k : Nat} {pos : Pos} : TE W cx (.Constant (.int i) k pos) (ret (.lin 0 i)) := by
  intro ads ρ σ v ρ' σ' hd s Q E S k
  replace k := KK.of hd k
  exact wpAny_Constant_int (k ads _ s.heap _ (.refl _) ⟨_, by rw [Int.zero_mul, Int.zero_add]⟩ S)
theorem sStr {x : Str} {l : List Nat} {k : Nat} {pos : Pos} (hx : x = strN l) : TE W cx (.Constant (.str x) k pos) (ret (.str l)) := by
  replace hx := hx.symm; subst hx
  intro ads ρ σ v ρ' σ' hd s Q E S k
  replace k := KK.of hd k
  exact wpAny_Constant_str (k ads _ s.heap _ (.refl _) ⟨_, rfl⟩ S)
theorem sNone {k : Nat} {pos : Pos} : TE W cx (.Constant .none k pos) (ret .none) := by
  intro ads ρ σ v ρ' σ' hd s Q E S k
  replace k := KK.of hd k
  exact wpAny_Constant_none (k ads _ s.heap _ (.refl _) rfl S)
theorem sBool {b : Bool} {k : Nat} {pos : Pos} : TE W cx (.Constant (.bool b) k pos) (ret (.bool b)) := by
  intro ads ρ σ v ρ' σ' hd s Q E S k
  replace k := KK.of hd k
  exact wpAny_Constant_bool (k ads _ s.heap _ (.refl _) rfl S)
noncomputable def dLoc (k : Nat) : Mo AV := fun ρ σ => match look ρ.loc k with | some v => some (v, ρ, σ) | none => none
noncomputable def dCel (k : Nat) : Mo AV := fun ρ σ => match look ρ.cel k with
  | some c => match σ.get c with
    | some (.cell (some v)) => some (v, ρ, σ)
    | _ => none
  | none => none
variable {n : Nat}
theorem sLoc {x : Str} {pos : Pos} (O : Ok W n cx) (k : Nat) (hx : nm k = x) (hk : cx.env.kindOf x = some .local) (hd : (x == ("__debug__" : Str)) = false) : TE W cx (.Name x pos) (dLoc k) := by
  intro ads ρ σ v ρ' σ' hd' s Q E S kk
  unfold dLoc at hd'
  split at hd'
  · rename_i u e
    cases hd'
    obtain ⟨m, F, r⟩ := S.fr
    obtain ⟨_, y, e1, e2⟩ := r k _ e
    refine wpAny_Name (wpAny_loadName_local O.fk hk (O.loc ▸ F.ns) (hx ▸ e1) ?_) hd
    exact kk ads _ s.heap s.toks (.refl _) e2 S
  · exact nos hd'
theorem sCel {x : Str} {pos : Pos} (O : Ok W n cx) (k : Nat) (hx : nm k = x) (hk : cx.env.kindOf x = some .cell) (hd : (x == ("__debug__" : Str)) = false) : TE W cx (.Name x pos) (dCel k) := by
  intro ads ρ σ v ρ' σ' hd' s Q E S kk
  unfold dCel at hd'
  split at hd'
  · rename_i c e
    split at hd'
    · rename_i u e'
      cases hd'
      obtain ⟨a, ea, el⟩ := S.cel k c e
      obtain ⟨a', o, ea', eo, eor⟩ := S.obj c _ e'
      cases Option.some.inj ((ea).symm.trans ea')
      obtain ⟨y, ed, ev⟩ := eor
      refine wpAny_Name (wpAny_loadName_cell O.fk hk (hx ▸ el) ⟨o, eo, ed⟩ ?_) hd
      exact kk ads _ s.heap s.toks (.refl _) ev S
    · exact nos hd'
  · exact nos hd'
theorem sFree {x : Str} {pos : Pos} (O : Ok W n cx) (k : Nat) (hx : nm k = x) (hk : cx.env.kindOf x = some .free) (hd : (x == ("__debug__" : Str)) = false) (hc : (x == ("__classdict__" : Str)) = false) : TE W cx (.Name x pos) (dCel k) := by
  intro ads ρ σ v ρ' σ' hd' s Q E S kk
  unfold dCel at hd'
  split at hd'
  · rename_i c e
    split at hd'
    · rename_i u e'
      cases hd'
      obtain ⟨a, ea, el⟩ := S.cel k c e
      obtain ⟨a', o, ea', eo, eor⟩ := S.obj c _ e'
      cases Option.some.inj ((ea).symm.trans ea')
      obtain ⟨y, ed, ev⟩ := eor
      refine wpAny_Name (wpAny_loadName_free O.fk hk (hx ▸ el) ⟨o, eo, ed⟩ ?_ hc) hd
      exact kk ads _ s.heap s.toks (.refl _) ev S
    · exact nos hd'
  · injection hd'
theorem sGlob {x : Str} {pos : Pos} {v : Value} (O : Ok W n cx) (e : nsIn W.K mainGlobals x = some (some v)) (hk : cx.env.kindOf x = some .globalImplicit) (hd : (x == ("__debug__" : Str)) = false) : TE W cx (.Name x pos) (ret (.wr v)) := by
  intro ads ρ σ v ρ' σ' hd' s Q E S kk
  cases hd'
  obtain ⟨m, F, r⟩ := S.fr
  exact Name_function_global O.fk hk (loadGlobal_global (env := cx.env) (by rw [O.gl]; exact O.top.g.keeps F.keep) (mg_of O.kin O.top.g e) (kk ads _ s.heap s.toks (.refl _) rfl S)) hd
theorem sBui {x : Str} {pos : Pos} {v : Value} (O : Ok W n cx) (e : nsIn W.K mainGlobals x = some none) (hv : bootBuiltins x = some v) (hn : x ≠ "__name__") (hk : cx.env.kindOf x = some .globalImplicit) (hd : (x == ("__debug__" : Str)) = false) : TE W cx (.Name x pos) (ret (.wr v)) := by
  intro ads ρ σ v ρ' σ' hd' s Q E S kk
  cases hd'
  obtain ⟨m, F, r⟩ := S.fr
  exact Name_function_global O.fk hk (loadGlobal_builtin (env := cx.env) (by rw [O.gl]; exact O.top.g.keeps F.keep) (mg_none_of O.kin O.top.g e) (by rw [O.bi]; exact O.top.b.keeps F.keep) ((O.top.builtins x hn).trans hv) (kk ads _ s.heap s.toks (.refl _) rfl S)) hd
end


section
variable {W : Wo} {cx : Cx} {ads : List Addr} {ρ : Loc} {σ σ' : Sto} {h h' : Heap}
noncomputable def LocR (W : Wo) (ads : List Addr) (ρ : Loc) (m : Str → Option Value) : Prop := ∀ k v, look ρ.loc k = some v → k < NN ∧ ∃ x, m (nm k) = some x ∧ VR W.q ads v x
noncomputable def newsOf (cx : Cx) (h : Heap) (ads : List Addr) : List (Addr × Obj) := (cx.al.map fun p => (p.1, (h.get? p.1).getD default)) ++ ads.map fun a => (a, (h.get? a).getD default)
theorem St.news (S : St W cx ads ρ σ h) : News cx.base cx.N h (newsOf cx h ads) := by
  intro p hp
  rcases List.mem_append.mp hp with hp | hp
  · obtain ⟨q, hq, rfl⟩ := List.mem_map.mp hp
    obtain ⟨⟨o, e, _⟩, p2, p3, p4⟩ := S.pv q hq
    exact ⟨by simp [e], p2, p4⟩
  · obtain ⟨a, ha, rfl⟩ := List.mem_map.mp hp
    obtain ⟨a1, a2, o, e⟩ := S.new a ha
    exact ⟨by simp [e], a1, a2⟩
theorem St.kept (S : St W cx ads ρ σ h) {news : List (Addr × Obj)} (N : News cx.base cx.N h' news) (hs : ∀ p ∈ newsOf cx h ads, p ∈ news) : (∀ a ∈ ads, h'.get? a = h.get? a) ∧ ∀ p ∈ cx.al, h'.get? p.1 = h.get? p.1 := by
  refine ⟨fun a ha => ?_, fun p hp => ?_⟩
  rotate_right
  · obtain ⟨⟨o, e, _⟩, _⟩ := S.pv p hp
    have := (N _ (hs _ (List.mem_append_left _ (List.mem_map_of_mem hp)))).1
    simp only [e, Option.getD_some] at this
    simp only [this, e]
  obtain ⟨_, _, o, e⟩ := S.new a ha
  have := (N _ (hs _ (List.mem_append_right _ (List.mem_map_of_mem ha)))).1
  simp only [e, Option.getD_some] at this
  simp only [this, e]
theorem St.close (S : St W cx ads ρ σ h) {m : Str → Option Value} (hm : LocR W ads ρ m) (F : Fr cx.base cx.N h' m) (hkp : (∀ a ∈ ads, h'.get? a = h.get? a) ∧ ∀ p ∈ cx.al, h'.get? p.1 = h.get? p.1) : St W cx ads ρ σ h' := by
  obtain ⟨hk, hp0⟩ := hkp
  refine ⟨⟨m, F, hm⟩, S.cel, S.nd, S.len, fun a ha => ?_, fun k ao e => ?_, fun p hp => ⟨(S.pv p hp).1.mp fun o e => (hp0 p hp).trans e, (S.pv p hp).2⟩⟩
  · obtain ⟨a1, a2, o, e⟩ := S.new a ha
    exact ⟨a1, a2, o, (hk a ha).trans e⟩
  · obtain ⟨a, o, e1, e2, e3⟩ := S.obj k ao e
    exact ⟨a, o, e1, (hk a (List.mem_of_getElem? e1)).trans e2, e3⟩
theorem St.add (S : St W cx ads ρ σ h) {m : Str → Option Value} (hm : LocR W ads ρ m) (F : Fr cx.base cx.N h' m) {a : Addr} {o : Obj} {ao : AO} {k : Nat}
    (hn : h.get? a = none) (N : News cx.base cx.N h' ((a, o) :: newsOf cx h ads)) (hor : ORw W ads ao o) (hσ : σ.new ao = some (k, σ')) :
    GrR W cx ads ρ σ' h' a k := by
  have S' := S.close hm F (S.kept N fun p hp => List.mem_cons_of_mem _ hp)
  have X : Ext ads (ads ++ [a]) := ⟨[a], rfl⟩
  have hk0 : k = ads.length := (Sto.new_get hσ 0).1.trans S.len
  have here : (ads ++ [a])[k]? = some a := by rw [hk0]; simp
  have na : a ∉ ads := fun hmm => by obtain ⟨_, _, o', e⟩ := S.new a hmm; cases (hn).symm.trans e
  obtain ⟨n1, n2, n3⟩ := N (a, o) (List.mem_cons_self ..)
  refine ⟨⟨⟨m, F, fun j v e => ?_⟩, ?_, ?_, ?_, ?_, ?_, fun p hp => ?_⟩, X, here⟩
  rotate_right
  · obtain ⟨p1, p2, p3, p4⟩ := S'.pv p hp
    refine ⟨p1, p2, fun hm => ?_, p4⟩
    rcases List.mem_append.mp hm with hm | hm
    · exact p3 hm
    · simp at hm
      obtain ⟨o', e', _⟩ := (S.pv p hp).1
      rw [hm, hn] at e'; cases e'
  · obtain ⟨a1, x, a2, a3⟩ := hm j v e
    exact ⟨a1, x, a2, a3.mono X⟩
  · intro j c e
    obtain ⟨b, e1, e2⟩ := S.cel j c e
    exact ⟨b, X.get e1, e2⟩
  · refine List.nodup_append.mpr ⟨S.nd, by simp, ?_⟩
    intro x hx y hy
    simp at hy
    replace hy := hy.symm; subst hy
    exact fun q => na (q ▸ hx)
  · simp only [(Sto.new_get hσ 0).2.1, S.len, List.length_append]; rfl
  · intro b hb
    rcases List.mem_append.mp hb with hb | hb
    · exact S'.new b hb
    · simp at hb
      replace hb := hb.symm; subst hb
      exact ⟨n2, n3, o, n1⟩
  · intro j ao' e
    rw [(Sto.new_get hσ j).2.2] at e
    refine (Classical.em (j = k)).elim (fun hj => ?_) fun hj => ?_
    · replace hj := hj.symm; subst hj
      replace e := (if_pos rfl).symm.trans e
      cases Option.some.inj e
      exact ⟨a, o, here, n1, OR.mono X hor⟩
    · replace e := (if_neg hj).symm.trans e
      obtain ⟨b, o', e1, e2, e3⟩ := S'.obj j ao' e
      exact ⟨b, o', X.get e1, e2, OR.mono X e3⟩
inductive OpenR (W : Wo) (cx : Cx) (ads : List Addr) (ρ : Loc) (h : Heap) : Prop
  | mk (m : Str → Option Value) (F : Fr cx.base cx.N h m) (hm : LocR W ads ρ m) : OpenR W cx ads ρ h
theorem St.open (S : St W cx ads ρ σ h) : OpenR W cx ads ρ h :=
  let ⟨m, F, hm⟩ := S.fr
  ⟨m, F, hm⟩
inductive AtR (W : Wo) (ads : List Addr) (h : Heap) (k : Nat) (ao : AO) (v : Value) : Prop
  | mk (a : Addr) (o : Obj) (e : v = .ref a) (ea : ads[k]? = some a) (ho : h.get? a = some o) (r : ORw W ads ao o) : AtR W ads h k ao v
theorem St.at (S : St W cx ads ρ σ h) {k : Nat} {v : Value} {ao : AO} (hv : VR W.q ads (.ref k) v) (e : σ.get k = some ao) : AtR W ads h k ao v := by
  obtain ⟨a, e1, rfl⟩ := hv
  obtain ⟨a', o, e2, e3, e4⟩ := S.obj k ao e
  cases Option.some.inj ((e1).symm.trans e2)
  exact ⟨a, o, rfl, e1, e3, e4⟩
end

theorem strN_append (x y : List Nat) : strN x ++ strN y = strN (x ++ y) := by
  show (⟨x.toArray ++ y.toArray⟩ : Str) = ⟨(x ++ y).toArray⟩
  simp
theorem strN_len (x : List Nat) : (strN x).length = x.length := by
  show x.toArray.size = _
  simp
theorem strN_inj {x y : List Nat} (h : strN x = strN y) : x = y := by
  have := congrArg (fun s => s.cps.toList) h
  simpa [strN] using this
theorem strN_beq (x y : List Nat) : (strN x == strN y) = (x == y) := by
  refine (Classical.em (x = y)).elim (fun h => ?_) fun h => ?_
  · subst h; simp
  · have : ¬ strN x = strN y := fun e => h (strN_inj e)
    simp only [beq_eq_false_iff_ne.mpr h, beq_eq_false_iff_ne.mpr this]
theorem denT_append (q : Int) : ∀ l m : List Pc, denT q (l ++ m) = denT q l ++ denT q m
  | [], _ => rfl
  | p :: r, m => by simp [denT, denT_append q r m]
theorem octsGo_len : ∀ (f n : Nat) (acc : List Nat), (octsGo f n acc).length ≤ f + acc.length
  | 0, _, acc => by simp [octsGo]
  | f + 1, n, acc => by
    dsimp only [octsGo]
    split
    · have := octsGo_len f (n / 64) (signOf (64 + n / 64 % 64) :: acc)
      simp at this; lia
    · lia
theorem octsOf_len (n : Nat) : (octsOf n).length ≤ 65 := by
  have := octsGo_len 64 n [signOf (n % 64)]
  simpa [octsOf] using this
noncomputable def tlen : List Pc → Nat
  | [] => 0
  | .lit s :: r => s.length + tlen r
  | .oct _ _ :: r => 65 + tlen r
theorem denT_len (q : Int) : ∀ l : List Pc, (denT q l).length ≤ tlen l
  | [] => Nat.le_refl _
  | .lit s :: r => by have := denT_len q r; simp only [denT, Pc.den, tlen, List.length_append]; lia
  | .oct a b :: r => by have := denT_len q r; have := octsOf_len (a * q + b).toNat; simp only [denT, Pc.den, tlen, List.length_append]; lia
noncomputable def pcs : AV → Option (List Pc)
  | .str s => some [.lit s]
  | .txt l => some l
  | _ => none
theorem pcs_VR {W : Wo} {ads : List Addr} {a : AV} {v : Value} {l : List Pc} (hv : VR W.q ads a v) (h : pcs a = some l) : ∃ t, v = .str (strN (denT W.q l)) t := by
  cases a with
  | str s => cases h; obtain ⟨t, e⟩ := hv; exact ⟨t, by rw [e]; simp [denT, Pc.den]⟩
  | txt l => cases h; exact hv
  | _ => cases h
theorem small_size {n : Nat} (h : Nat.ble n 1000000 = true) : n ≤ sizeLine := by
  have := Nat.le_of_ble_eq_true h
  simp only [PySem.sizeLine_eq]; lia

/-- a + b -/
noncomputable def fAdd (a b : AV) : Mo AV := fun ρ σ => match a, b with
  | .lin a b, .lin c d => some (.lin (a + c) (b + d), ρ, σ)
  | .str x, .str y => match Nat.ble (x.length + y.length) 1000000 with
    | true => some (.str (x ++ y), ρ, σ)
    | false => none
  | .ref i, .ref j => match σ.get i, σ.get j with
    | some (.list l), some (.list m) => match Nat.ble (l.length + m.length) 1000000 with
      | true => match σ.new (.list (l ++ m)) with
        | some (k, σ') => some (.ref k, ρ, σ')
        | none => none
      | false => none
    | _, _ => none
  | a, b => match pcs a, pcs b with
    | some l, some m => match Nat.ble (tlen l + tlen m) 1000000 with
      | true => some (.txt (l ++ m), ρ, σ)
      | false => none
    | _, _ => none
section
variable {W : Wo} {cx : Cx}
theorem oAdd_txt {ads : List Addr} {a b : AV} {x y : Value} {l m : List Pc} (ha : VR W.q ads a x) (hb : VR W.q ads b y) (el : pcs a = some l) (em : pcs b = some m) (hs : Nat.ble (tlen l + tlen m) 1000000 = true) :
    TAt W cx (VRw W) ads (binaryOp .Add x y) (ret (.txt (l ++ m))) := by
  intro ρ σ v ρ' σ' hd s Q E S k
  replace k := KK.of hd k
  obtain ⟨t, rfl⟩ := pcs_VR ha el
  obtain ⟨u, rfl⟩ := pcs_VR hb em
  refine add_str (fun t' tk => k ads _ s.heap tk (.refl _) ⟨t', ?_⟩ S) ?_
  · rw [strN_append, denT_append]
  · simp only [strN_len, strN_len]
    have h1 := denT_len W.q l
    have h2 := denT_len W.q m
    have := small_size hs
    lia
theorem oAdd : OpR W cx (binaryOp .Add) fAdd := by
  intro ads a b x y ha hb ρ σ v ρ' σ' hd s Q E S k
  unfold fAdd at hd
  split at hd
  · replace k := KK.of hd k
    obtain ⟨t, hqq⟩ := ha; subst hqq
    obtain ⟨u, hqq⟩ := hb; subst hqq
    exact add_int (k ads _ s.heap _ (.refl _) ⟨_, by simp only [Int.add_mul]; congr 1; lia⟩ S)
  · refine gB hd fun hs hd => ?_
    replace k := KK.of hd k
    obtain ⟨t, hqq⟩ := ha; subst hqq
    obtain ⟨u, hqq⟩ := hb; subst hqq
    exact add_str (fun t' tk => k ads _ s.heap tk (.refl _) ⟨t', by rw [strN_append]⟩ S) (by simp only [strN_len, strN_len]; exact small_size hs)
  · split at hd
    · rename_i i j l m e1 e2
      refine gB hd fun hs hd => ?_
      refine gN hd fun n σ₁ en hd => ?_
      replace k := KK.of hd k
      obtain ⟨a1, o1, rfl, _, h1, r1⟩ := S.at ha e1
      obtain ⟨a2, o2, rfl, _, h2, r2⟩ := S.at hb e2
      obtain ⟨vs, n1, rfl, r1⟩ := r1
      obtain ⟨ws, n2, rfl, r2⟩ := r2
      obtain ⟨mm, F, hm⟩ := S.open
      refine add_arrays F S.news ⟨_, h1, rfl, _, rfl⟩ ⟨_, h2, rfl, _, rfl⟩ (fun h' F' N' => ?_) ?_
      · obtain ⟨S', X, he⟩ := S.add hm F' (heap_fresh _) N' (ao := .list (l ++ m)) ⟨vs ++ ws, 0, by rfl, VRs.append r1 r2⟩ en
        exact k _ _ h' s.toks X ⟨_, he, rfl⟩ S'
      · have := VRs.length r1
        have := VRs.length r2
        have := small_size hs
        simp; lia
    · exact nos hd
  · split at hd
    · rename_i l m el em
      refine gB hd fun hs hd => ?_
      replace k := KK.of hd k
      exact oAdd_txt ha hb el em hs _ _ _ _ _ rfl s Q E S k
    · exact nos hd
noncomputable def fSub (a b : AV) : Mo AV := fun ρ σ => match a, b with
  | .lin a b, .lin c d => some (.lin (a - c) (b - d), ρ, σ)
  | _, _ => none
theorem oSub : OpR W cx (binaryOp .Sub) fSub := by
  intro ads a b x y ha hb ρ σ v ρ' σ' hd s Q E S k
  unfold fSub at hd
  split at hd
  · replace k := KK.of hd k
    obtain ⟨t, hqq⟩ := ha; subst hqq
    obtain ⟨u, hqq⟩ := hb; subst hqq
    exact sub_int (k ads _ s.heap _ (.refl _) ⟨_, by rw [Int.sub_mul]; congr 1; lia⟩ S)
  · exact nos hd
noncomputable def small (x : Int) : Bool := match x with | .ofNat n => Nat.blt n 4294967296 | .negSucc n => Nat.blt n 4294967295
theorem small_is {x : Int} (h : small x = true) : -4294967296 ≤ x ∧ x < 4294967296 := by
  unfold small at h
  split at h
  · rename_i n
    have : n < 4294967296 := Nat.le_of_ble_eq_true h
    show -4294967296 ≤ (n : Int) ∧ (n : Int) < 4294967296
    constructor <;> lia
  · rename_i n
    have : n < 4294967295 := Nat.le_of_ble_eq_true h
    constructor <;> lia
theorem mulOk_left {a b : Int} (h : small a = true) : IntMulOk a b := by
  have := small_is h
  exact IntMulOk.of_left (intBits_le_64 (by lia) (by lia))
theorem mulOk_right {a b : Int} (h : small b = true) : IntMulOk a b := by
  have := small_is h
  exact IntMulOk.of_right (intBits_le_64 (by lia) (by lia))
noncomputable def isZ (x : Int) : Bool := match x with | .ofNat n => Nat.beq n 0 | .negSucc _ => false
theorem isZ_is {x : Int} (h : isZ x = true) : x = 0 := by
  unfold isZ at h
  split at h
  · rw [Nat.eq_of_beq_eq_true h]; rfl
  · injection h
noncomputable def mulL (x : List Nat) : Nat → List Nat
  | 0 => []
  | n + 1 => x ++ mulL x n
theorem foldl_append (x : Array Nat) : ∀ (n : Nat) (acc : Array Nat), (List.replicate n x).foldl (· ++ ·) acc = acc ++ (mulL x.toList n).toArray
  | 0, acc => by simp [mulL]
  | n + 1, acc => by simp only [List.replicate_succ, List.foldl_cons, foldl_append x n]; apply Array.ext'; simp [mulL]
theorem mul_strN (x : List Nat) (n : Int) : Txt.mul (strN x) n = strN (mulL x n.toNat) := by
  unfold Txt.mul
  split
  · rename_i h
    have : n.toNat = 0 := by lia
    rw [this]; rfl
  · rename_i h
    split
    · rename_i q
      rcases Bool.or_eq_true_iff.mp q with q | q
      · have : n = 1 := by simpa using q
        replace this := this.symm; subst this
        simp [mulL, strN]
      · have : x = [] := by
          have : (strN x).length = 0 := by simpa using q
          rw [strN_len] at this
          exact List.length_eq_zero_iff.mp this
        replace this := this.symm; subst this
        have : ∀ k, mulL [] k = [] := fun k => by induction k with | zero => rfl | succ k ih => simp [mulL, ih]
        simp only [this]
    · show (⟨_⟩ : Str) = ⟨_⟩
      simp only [foldl_append]
      simp [strN]
noncomputable def mulA (x : List AV) : Nat → List AV
  | 0 => []
  | n + 1 => x ++ mulA x n
noncomputable def mulV (x : List Value) : Nat → List Value
  | 0 => []
  | n + 1 => x ++ mulV x n
theorem VRs.mul {q : Int} {ads : List Addr} {l : List AV} {vs : List Value} (r : VRs q ads l vs) : ∀ n, VRs q ads (mulA l n) (mulV vs n)
  | 0 => trivial
  | n + 1 => VRs.append r (VRs.mul r n)
theorem foldl_appendV (x : Array Value) : ∀ (n : Nat) (acc : Array Value), (List.replicate n x).foldl (fun a b => a ++ b) acc = acc ++ (mulV x.toList n).toArray
  | 0, acc => by simp [mulV]
  | n + 1, acc => by simp only [List.replicate_succ, List.foldl_cons, foldl_appendV x n]; apply Array.ext'; simp [mulV]
noncomputable def mulN (l : List AV) (n : Nat) : Nat := match l with | [] => 0 | _ :: _ => n
/-- a * b -/
noncomputable def fMul (a b : AV) : Mo AV := fun ρ σ => match a, b with
  | .lin a b, .lin c d => match small b, small d with
    | true, true => match isZ a, isZ c with
      | true, true => some (.lin 0 (b * d), ρ, σ)
      | true, false => some (.lin (b * c) (b * d), ρ, σ)
      | false, true => some (.lin (a * d) (b * d), ρ, σ)
      | _, _ => none
    | _, _ => none
  | .str x, .lin c d => match isZ c, small d, Nat.ble (x.length * d.toNat) 1000000 with
    | true, true, true => some (.str (mulL x d.toNat), ρ, σ)
    | _, _, _ => none
  | .ref i, .lin c d => match isZ c, small d, σ.get i with
    | true, true, some (.list l) => match Nat.ble (l.length * d.toNat) 1000000 with
      | true => match σ.new (.list (mulA l (mulN l d.toNat))) with
        | some (k, σ') => some (.ref k, ρ, σ')
        | none => none
      | false => none
    | _, _, _ => none
  | _, _ => none
theorem oMul : OpR W cx (binaryOp .Mult) fMul := by
  intro ads a b x y ha hb ρ σ v ρ' σ' hd s Q E S k
  unfold fMul at hd
  split at hd
  · rename_i a b c d
    obtain ⟨t, hqq⟩ := ha; subst hqq
    obtain ⟨u, hqq⟩ := hb; subst hqq
    split at hd
    · rename_i sb sd
      split at hd
      · rename_i za zc
        replace k := KK.of hd k
        cases isZ_is za; cases isZ_is zc
        simp only [Int.zero_mul, Int.zero_add]
        exact mul_int (k ads _ s.heap _ (.refl _) ⟨_, by rw [Int.zero_mul, Int.zero_add]⟩ S) (mulOk_left sb)
      · rename_i za zc
        replace k := KK.of hd k
        cases isZ_is za
        simp only [Int.zero_mul, Int.zero_add]
        exact mul_int (k ads _ s.heap _ (.refl _) ⟨_, by rw [Int.mul_add, Int.mul_assoc]⟩ S) (mulOk_left sb)
      · rename_i za zc
        replace k := KK.of hd k
        cases isZ_is zc
        simp only [Int.zero_mul, Int.zero_add]
        exact mul_int (k ads _ s.heap _ (.refl _) ⟨_, by rw [Int.add_mul, Int.mul_right_comm]⟩ S) (mulOk_right sd)
      · exact nos hd
    · exact nos hd
  · rename_i x c d
    split at hd
    · rename_i zc sd hs
      replace k := KK.of hd k
      cases isZ_is zc
      obtain ⟨t, hqq⟩ := ha; subst hqq
      obtain ⟨u, hqq⟩ := hb; subst hqq
      have hd2 := small_is sd
      simp only [Int.zero_mul, Int.zero_add]
      refine SB.mul ⟨?_, fun h1 h2 => ?_, fun h1 h2 => ?_⟩ fun t' tk => k ads _ s.heap tk (.refl _) ⟨t', by rw [mul_strN]⟩ S
      · simp; constructor <;> lia
      · rw [strN_len]
        have h3 := Nat.le_of_ble_eq_true hs
        simp only [Int.not_lt]
        refine (Int.le_ediv_iff_mul_le (by lia)).mpr ?_
        have : ((x.length : Int)) * d = ((x.length * d.toNat : Nat) : Int) := by
          simp only [Int.natCast_mul]; congr 1; lia
        rw [this]; lia
      · rw [strN_len]
        have h3 := small_size hs
        exact decide_eq_false (Nat.not_lt.mpr h3)
    · exact nos hd
  · rename_i i c d
    split at hd
    · rename_i l zc sd e
      refine gB hd fun hs hd => ?_
      refine gN hd fun n σ₁ en hd => ?_
      replace k := KK.of hd k
      cases isZ_is zc
      obtain ⟨u, hqq⟩ := hb; subst hqq
      obtain ⟨a1, o1, rfl, _, h1, r1⟩ := S.at ha e
      obtain ⟨vs, n1, rfl, r1⟩ := r1
      obtain ⟨mm, F, hm⟩ := S.open
      have hd2 := small_is sd
      have hl := VRs.length r1
      have h3 := Nat.le_of_ble_eq_true hs
      simp only [Int.zero_mul, Int.zero_add]
      refine mul_list F S.news h1 (by lia) (by lia) (by simp; simp only [← hl]; lia) (fun h' F' N' => ?_)
      have he0 : (List.foldl (fun x1 x2 => x1 ++ x2) #[] (List.replicate (if vs.toArray.isEmpty = true then 0 else d.toNat) vs.toArray)) = (mulV vs (mulN l d.toNat)).toArray := by
        simp only [foldl_appendV]
        dsimp only [mulN]
        cases l with
        | nil => cases vs with
          | nil => simp [mulV]
          | cons _ _ => simp at hl
        | cons _ _ => cases vs with
          | nil => simp at hl
          | cons _ _ => simp
      rw [he0] at N'
      obtain ⟨S', X, he⟩ := S.add hm F' (heap_fresh _) N' (ao := .list (mulA l (mulN l d.toNat))) ⟨mulV vs (mulN l d.toNat), 0, rfl, VRs.mul r1 _⟩ en
      exact k _ _ h' s.toks X ⟨_, he, rfl⟩ S'
    · exact nos hd
  · exact nos hd
end

noncomputable def intB (a b : Int) : Bool := decide (a = b)
theorem intB_is {a b : Int} (h : intB a b = true) : a = b := of_decide_eq_true h
/-- a // b, the divisor written -/
noncomputable def fDiv (a b : AV) : Mo AV := fun ρ σ => match a, b with
  | .lin a b, .lin c d => match isZ c, small d, isZ d, isZ (Int.emod a d) with
    | true, true, false, true => some (.lin (Int.ediv a d) (Int.fdiv b d), ρ, σ)
    | _, _, _, _ => none
  | _, _ => none
noncomputable def fMod (a b : AV) : Mo AV := fun ρ σ => match a, b with
  | .lin a b, .lin c d => match isZ c, isZ d, isZ (Int.emod a d) with
    | true, false, true => some (.lin 0 (Int.fmod b d), ρ, σ)
    | _, _, _ => none
  | _, _ => none
theorem isZ_not {x : Int} (h : isZ x = false) : x ≠ 0 := by
  rintro rfl
  injection h
theorem byPylong_small {a d : Int} (h : small d = true) : Builtin.divisionGoesByPylong a d = false := by
  have := small_is h
  unfold Builtin.divisionGoesByPylong
  simp only
  have hl : (if (d == 0) = true then 0 else d.natAbs.log2 / 30 + 1) ≤ 300 := by
    split
    · lia
    · have : d.natAbs.log2 < 64 := by
        by_cases z : d.natAbs = 0
        · simp only [z]; decide
        · exact (Nat.log2_lt z).mpr (by lia)
      lia
  have : decide ((if (d == 0) = true then 0 else d.natAbs.log2 / 30 + 1) > 300) = false := decide_eq_false (by lia)
  simp only [this]; rfl
theorem fdiv_lin {a b d q : Int} (hd : d ≠ 0) (h : Int.emod a d = 0) : Int.fdiv (a * q + b) d = Int.ediv a d * q + Int.fdiv b d := by
  have e : a = d * Int.ediv a d := by
    have := Int.mul_ediv_add_emod a d
    have h' : a % d = 0 := h
    rw [h', Int.add_zero] at this
    exact this.symm
  generalize Int.ediv a d = k at e
  subst e
  simp only [Int.add_comm, Int.mul_assoc, Int.add_mul_fdiv_left _ _ hd, Int.add_comm]
theorem fmod_lin {a b d q : Int} (h : Int.emod a d = 0) : Int.fmod (a * q + b) d = Int.fmod b d := by
  have e : a = d * Int.ediv a d := by
    have := Int.mul_ediv_add_emod a d
    have h' : a % d = 0 := h
    rw [h', Int.add_zero] at this
    exact this.symm
  generalize Int.ediv a d = k at e
  replace e := e.symm; subst e
  simp only [Int.add_comm, Int.mul_assoc, Int.add_mul_fmod_self_left]
noncomputable def conc (f : Int → Int → Int) (a b : AV) : Mo AV := fun ρ σ => match a, b with
  | .lin a b, .lin c d => match isZ a, isZ c with
    | true, true => some (.lin 0 (f b d), ρ, σ)
    | _, _ => none
  | _, _ => none
noncomputable def fAnd := conc Builtin.bitAnd
noncomputable def fOr := conc Builtin.bitOr
noncomputable def fXor := conc Builtin.bitXor
noncomputable def posB (x : Int) : Bool := match x with | .ofNat n => Nat.ble n 1000000 | .negSucc _ => false
theorem posB_is {x : Int} (h : posB x = true) : 0 ≤ x ∧ x ≤ 1000000 := by
  dsimp only [posB] at h
  split at h
  · rename_i n
    have := Nat.le_of_ble_eq_true h
    show 0 ≤ (n : Int) ∧ (n : Int) ≤ 1000000
    lia
  · injection h
noncomputable def fShl (a b : AV) : Mo AV := fun ρ σ => match a, b with
  | .lin a b, .lin c d => match isZ a, isZ c, posB d, small b with
    | true, true, true, true => some (.lin 0 (b * 2 ^ d.toNat), ρ, σ)
    | _, _, _, _ => none
  | _, _ => none
noncomputable def fShr (a b : AV) : Mo AV := fun ρ σ => match a, b with
  | .lin a b, .lin c d => match isZ a, isZ c, posB d with
    | true, true, true => some (.lin 0 (b.fdiv (2 ^ d.toNat)), ρ, σ)
    | _, _, _ => none
  | _, _ => none
section
variable {W : Wo} {cx : Cx}
theorem oDiv : OpR W cx (binaryOp .FloorDiv) fDiv := by
  intro ads a b x y ha hb ρ σ v ρ' σ' hd s Q E S k
  refine opq fun PP oo => ?_
  dsimp only [fDiv] at hd
  split at hd
  · split at hd
    · rename_i zc sd zd zm
      replace k := KK.of hd k
      cases isZ_is zc
      refine oo ?_
      obtain ⟨t, hqq⟩ := ha; subst hqq
      obtain ⟨u, hqq⟩ := hb; subst hqq
      simp only [Int.zero_mul, Int.zero_add]
      exact floordiv_int (isZ_not zd) (k ads _ s.heap _ (.refl _) ⟨_, by rw [fdiv_lin (isZ_not zd) (isZ_is zm)]⟩ S) (.inl (byPylong_small sd))
    · exact nos hd
  · exact nos hd
theorem oIDiv : OpR W cx (inplaceOp .FloorDiv) fDiv := by
  intro ads a b x y ha hb ρ σ v ρ' σ' hd s Q E S k
  refine opq fun PP oo => ?_
  dsimp only [fDiv] at hd
  split at hd
  · split at hd
    · rename_i zc sd zd zm
      replace k := KK.of hd k
      cases isZ_is zc
      refine oo ?_
      obtain ⟨t, hqq⟩ := ha; subst hqq
      obtain ⟨u, hqq⟩ := hb; subst hqq
      simp only [Int.zero_mul, Int.zero_add]
      exact ifloordiv_int (isZ_not zd) (k ads _ s.heap _ (.refl _) ⟨_, by rw [fdiv_lin (isZ_not zd) (isZ_is zm)]⟩ S) (.inl (byPylong_small sd))
    · exact nos hd
  · exact nos hd
theorem oMod : OpR W cx (binaryOp .Mod) fMod := by
  intro ads a b x y ha hb ρ σ v ρ' σ' hd s Q E S k
  refine opq fun PP oo => ?_
  dsimp only [fMod] at hd
  split at hd
  · split at hd
    · rename_i zc zd zm
      replace k := KK.of hd k
      cases isZ_is zc
      refine oo ?_
      obtain ⟨t, hqq⟩ := ha; subst hqq
      obtain ⟨u, hqq⟩ := hb; subst hqq
      simp only [Int.zero_mul, Int.zero_add]
      exact mod_int' (isZ_not zd) (k ads _ s.heap _ (.refl _) ⟨_, by rw [fmod_lin (isZ_is zm), Int.zero_mul, Int.zero_add]⟩ S)
    · exact nos hd
  · exact nos hd
theorem oConc {op : Operator} {f : Int → Int → Int} (t₀ : Value → Value → Sem Value)
    (hw : ∀ {A : Around} {E : Value → Shared → Prop} {s : Shared} {a b : Int} {t u : Tok} {Q : Value → Shared → Prop}, Q (.int (f a b) s.toks) { s with toks := s.toks + 1 } → wpAny (model W.prog W.w) A (t₀ (.int a t) (.int b u)) Q E s) :
    OpR W cx t₀ (conc f) := by
  let _ := op
  intro ads a b x y ha hb ρ σ v ρ' σ' hd s Q E S k
  dsimp only [conc] at hd
  split at hd
  · split at hd
    · rename_i za zc
      replace k := KK.of hd k
      cases isZ_is zc
      cases isZ_is za
      obtain ⟨t, hqq⟩ := ha; subst hqq
      obtain ⟨u, hqq⟩ := hb; subst hqq
      simp only [Int.zero_mul, Int.zero_add]
      exact hw (k ads _ s.heap _ (.refl _) ⟨_, by rw [Int.zero_mul, Int.zero_add]⟩ S)
    · exact nos hd
  · exact nos hd
theorem oAnd : OpR W cx (binaryOp .BitAnd) fAnd := oConc (op := .BitAnd) _ and_int
theorem oOr : OpR W cx (binaryOp .BitOr) fOr := oConc (op := .BitOr) _ or_int
theorem oIOr : OpR W cx (inplaceOp .BitOr) fOr := oConc (op := .BitOr) _ ior_int
theorem oXor : OpR W cx (binaryOp .BitXor) fXor := oConc (op := .BitXor) _ xor_int
theorem oShl : OpR W cx (binaryOp .LShift) fShl := by
  intro ads a b x y ha hb ρ σ v ρ' σ' hd s Q E S k
  refine opq fun PP oo => ?_
  dsimp only [fShl] at hd
  split at hd
  · split at hd
    · rename_i za zc pd sb
      replace k := KK.of hd k
      cases isZ_is zc
      cases isZ_is za
      refine oo ?_
      obtain ⟨t, hqq⟩ := ha; subst hqq
      obtain ⟨u, hqq⟩ := hb; subst hqq
      have := posB_is pd
      have := small_is sb
      simp only [Int.zero_mul, Int.zero_add]
      exact lshift_int_small (by lia) (by lia) (by lia) (k ads _ s.heap _ (.refl _) ⟨_, by rw [Int.zero_mul, Int.zero_add]⟩ S)
    · exact nos hd
  · exact nos hd
theorem oIShl : OpR W cx (inplaceOp .LShift) fShl := by
  intro ads a b x y ha hb ρ σ v ρ' σ' hd s Q E S k
  refine opq fun PP oo => ?_
  dsimp only [fShl] at hd
  split at hd
  · split at hd
    · rename_i za zc pd sb
      replace k := KK.of hd k
      cases isZ_is zc
      cases isZ_is za
      refine oo ?_
      obtain ⟨t, hqq⟩ := ha; subst hqq
      obtain ⟨u, hqq⟩ := hb; subst hqq
      have := posB_is pd
      have := small_is sb
      simp only [Int.zero_mul, Int.zero_add]
      exact ilshift_int_small (by lia) (by lia) (by lia) (k ads _ s.heap _ (.refl _) ⟨_, by rw [Int.zero_mul, Int.zero_add]⟩ S)
    · exact nos hd
  · exact nos hd
theorem oShr : OpR W cx (binaryOp .RShift) fShr := by
  intro ads a b x y ha hb ρ σ v ρ' σ' hd s Q E S k
  refine opq fun PP oo => ?_
  dsimp only [fShr] at hd
  split at hd
  · split at hd
    · rename_i za zc pd
      replace k := KK.of hd k
      cases isZ_is zc
      cases isZ_is za
      refine oo ?_
      obtain ⟨t, hqq⟩ := ha; subst hqq
      obtain ⟨u, hqq⟩ := hb; subst hqq
      have := posB_is pd
      simp only [Int.zero_mul, Int.zero_add]
      exact rshift_int (by lia) (k ads _ s.heap _ (.refl _) ⟨_, by rw [Int.zero_mul, Int.zero_add]⟩ S)
    · exact nos hd
  · exact nos hd
noncomputable def fIAdd (a b : AV) : Mo AV := fun ρ σ => match a, b with
  | .lin a b, .lin c d => some (.lin (a + c) (b + d), ρ, σ)
  | _, _ => none
theorem oIAdd : OpR W cx (inplaceOp .Add) fIAdd := by
  intro ads a b x y ha hb ρ σ v ρ' σ' hd s Q E S k
  refine opq fun PP oo => ?_
  dsimp only [fIAdd] at hd
  split at hd
  · replace k := KK.of hd k
    refine oo ?_
    obtain ⟨t, hqq⟩ := ha; subst hqq
    obtain ⟨u, hqq⟩ := hb; subst hqq
    exact iadd_int (k ads _ s.heap _ (.refl _) ⟨_, by rw [Int.add_mul]; congr 1; lia⟩ S)
  · exact nos hd
noncomputable def fNeg (a : AV) : Mo AV := fun ρ σ => match a with
  | .lin a b => some (.lin (-a) (-b), ρ, σ)
  | _ => none
noncomputable def fInv (a : AV) : Mo AV := fun ρ σ => match a with
  | .lin a b => some (.lin (-a) (-b - 1), ρ, σ)
  | _ => none
theorem oNeg (ads : List Addr) (a : AV) (v : Value) (ha : VR W.q ads a v) : TAt W cx (VRw W) ads (unaryOp .USub v) (fNeg a) := by
  intro ρ σ v ρ' σ' hd s Q E S k
  refine opq fun PP oo => ?_
  dsimp only [fNeg] at hd
  split at hd
  · replace k := KK.of hd k
    refine oo ?_
    obtain ⟨t, hqq⟩ := ha; subst hqq
    exact neg_int (k ads _ s.heap _ (.refl _) ⟨_, by rw [Int.neg_mul]; congr 1; lia⟩ S)
  · exact nos hd
theorem oInv (ads : List Addr) (a : AV) (v : Value) (ha : VR W.q ads a v) : TAt W cx (VRw W) ads (unaryOp .Invert v) (fInv a) := by
  intro ρ σ v ρ' σ' hd s Q E S k
  refine opq fun PP oo => ?_
  dsimp only [fInv] at hd
  split at hd
  · replace k := KK.of hd k
    refine oo ?_
    obtain ⟨t, hqq⟩ := ha; subst hqq
    exact invert_int (k ads _ s.heap _ (.refl _) ⟨_, by rw [Int.neg_mul]; unfold Builtin.bitNot; congr 1; lia⟩ S)
  · exact nos hd

/-! comparisons -/
noncomputable def mapO {α β : Type} (g : α → Option β) : List α → Option (List β)
  | [] => some []
  | a :: r => match g a, mapO g r with
    | some b, some bs => some (b :: bs)
    | _, _ => none
noncomputable def toD (σ : Sto) : Nat → AV → Option PyData
  | 0, _ => none
  | _ + 1, .none => some .none
  | _ + 1, .bool b => some (.bool b)
  | _ + 1, .lin a b => match isZ a with | true => some (.int b) | false => none
  | _ + 1, .str s => some (.str (strN s))
  | f + 1, .ref k => match σ.get k with
    | some (.list l) => (mapO (toD σ f) l).map .list
    | some (.tup l) => (mapO (toD σ f) l).map .tuple
    | _ => none
  | _ + 1, _ => none
theorem readsAll_mapO {h : Heap} {ads : List Addr} {g : AV → Option PyData} (hg : ∀ a d v, g a = some d → VR W.q ads a v → ∃ as, Reads h v d as) :
    ∀ (l : List AV) (ds : List PyData) (vs : List Value), mapO g l = some ds → VRs W.q ads l vs → ∃ as, ReadsAll h vs ds as
  | [], ds, [], e, _ => by cases e; exact ⟨_, .nil⟩
  | a :: r, ds, v :: vs, e, ⟨hv, hr⟩ => by
    dsimp only [mapO] at e
    split at e
    · rename_i d ds' e1 e2
      cases e
      obtain ⟨as, x⟩ := hg a d v e1 hv
      obtain ⟨bs, y⟩ := readsAll_mapO hg r ds' vs e2 hr
      exact ⟨_, .cons x y⟩
    · exact nos e
  | [], _, _ :: _, _, hv => hv.elim
  | _ :: _, _, [], _, hv => hv.elim
theorem toD_reads {ads : List Addr} {ρ : Loc} {σ : Sto} {h : Heap} (S : St W cx ads ρ σ h) : ∀ (f : Nat) (a : AV) (d : PyData) (v : Value), toD σ f a = some d → VR W.q ads a v → ∃ as, Reads h v d as
  | 0, _, _, _, e, _ => by cases e
  | f + 1, .none, d, v, e, hv => by cases e; cases hv; exact ⟨_, .none⟩
  | f + 1, .bool b, d, v, e, hv => by cases e; cases hv; exact ⟨_, .bool b⟩
  | f + 1, .lin a b, d, v, e, hv => by
    dsimp only [toD] at e
    split at e
    · rename_i z
      cases Option.some.inj e
      obtain ⟨t, hqq⟩ := hv; subst hqq
      cases isZ_is z
      rw [Int.zero_mul, Int.zero_add]
      exact ⟨_, .int _ _⟩
    · exact nos e
  | f + 1, .str x, d, v, e, hv => by cases e; obtain ⟨t, rfl⟩ := hv; exact ⟨_, .str _ _⟩
  | f + 1, .txt l, d, v, e, hv => by cases e
  | f + 1, .wr l, d, v, e, hv => by cases e
  | f + 1, .ty l, d, v, e, hv => by cases e
  | f + 1, .ref k, d, v, e, hv => by
    dsimp only [toD] at e
    split at e
    · rename_i l eo
      obtain ⟨ds, e1, rfl⟩ := Option.map_eq_some_iff.mp e
      obtain ⟨a, o, rfl, _, ho, vs, n, rfl, r⟩ := S.at hv eo
      obtain ⟨as, x⟩ := readsAll_mapO (toD_reads S f) l ds vs e1 r
      exact ⟨_, reads_list_at ho rfl rfl (x)⟩
    · rename_i l eo
      obtain ⟨ds, e1, rfl⟩ := Option.map_eq_some_iff.mp e
      obtain ⟨a, o, rfl, _, ho, vs, n, rfl, r⟩ := S.at hv eo
      obtain ⟨as, x⟩ := readsAll_mapO (toD_reads S f) l ds vs e1 r
      exact ⟨_, reads_tuple_at ho rfl rfl (x)⟩
    · exact nos e
noncomputable def listB : List Nat → List Nat → Bool
  | [], [] => true
  | a :: r, b :: t => match Nat.beq a b with | true => listB r t | false => false
  | _, _ => false
theorem listB_eq : ∀ a b : List Nat, listB a b = (a == b)
  | [], [] => rfl
  | [], _ :: _ => rfl
  | _ :: _, [] => rfl
  | a :: r, b :: t => by
    dsimp only [listB]
    rw [beq_dec]
    by_cases h : a = b
    · subst h; simp [listB_eq r t]
    · simp [h]
noncomputable def fEq (a b : AV) : Mo AV := fun ρ σ => match a, b with
  | .lin a b, .lin c d => match intB a c with
    | true => some (.bool (intB b d), ρ, σ)
    | false => none
  | .str x, .str y => some (.bool (listB x y), ρ, σ)
  | .ref i, .ref j => match toD σ 6 (.ref i), toD σ 6 (.ref j) with
    | some d, some e => match SeqAt.shaped d, SeqAt.shaped e with
      | true, true => some (.bool (PyData.eqv d e), ρ, σ)
      | _, _ => none
    | _, _ => none
  | _, _ => none
noncomputable def fNe (a b : AV) : Mo AV := fun ρ σ => match fEq a b ρ σ with
  | some (.bool b, ρ, σ) => some (.bool (!b), ρ, σ)
  | _ => none
theorem lin_beq (z b d : Int) : (z + b == z + d) = intB b d := by
  dsimp only [intB]
  by_cases h : b = d
  · subst h; simp
  · have : ¬ z + b = z + d := by lia
    simp [h]
variable {n : Nat}
theorem oEq (O : Ok W n cx) : OpR W cx (compareOp .Eq) fEq := by
  intro ads a b x y ha hb ρ σ v ρ' σ' hd s Q E S k
  refine opq fun PP oo => ?_
  dsimp only [fEq] at hd
  split at hd
  · refine gB hd fun za hd => ?_
    replace k := KK.of hd k
    refine oo ?_
    cases intB_is za
    obtain ⟨t, hqq⟩ := ha; subst hqq
    obtain ⟨u, hqq⟩ := hb; subst hqq
    exact eq_int (k ads _ s.heap s.toks (.refl _) (by simp only [lin_beq]; rfl) S)
  · replace k := KK.of hd k
    refine oo ?_
    obtain ⟨t, hqq⟩ := ha; subst hqq
    obtain ⟨u, hqq⟩ := hb; subst hqq
    exact eq_str (k ads _ s.heap s.toks (.refl _) (by simp only [strN_beq, listB_eq]; rfl) S)
  · split at hd
    · rename_i d e e1 e2
      split at hd
      · rename_i s1 s2
        replace k := KK.of hd k
        obtain ⟨as, r1⟩ := toD_reads S 6 _ _ _ e1 ha
        obtain ⟨bs, r2⟩ := toD_reads S 6 _ _ _ e2 hb
        refine oo ?_
        exact eq_dataH r1 r2 s1 s2 (by have := O.un; lia) (k ads _ s.heap s.toks (.refl _) rfl S)
      · exact nos hd
    · exact nos hd
  · exact nos hd
theorem oNe (O : Ok W n cx) : OpR W cx (compareOp .NotEq) fNe := by
  intro ads a b x y ha hb ρ σ v ρ' σ' hd s Q E S k
  refine opq fun PP oo => ?_
  dsimp only [fNe] at hd
  split at hd
  · rename_i c ρ₁ σ₁ hd'
    replace k := KK.of hd k
    dsimp only [fEq] at hd'
    split at hd'
    · refine gB hd' fun za hd' => ?_
      refine oo ?_
      cases hd'
      cases intB_is za
      obtain ⟨t, hqq⟩ := ha; subst hqq
      obtain ⟨u, hqq⟩ := hb; subst hqq
      exact ne_int (k ads _ s.heap s.toks (.refl _) (by dsimp only [bne]; simp only [lin_beq]; rfl) S)
    · refine oo ?_
      cases hd'
      obtain ⟨t, hqq⟩ := ha; subst hqq
      obtain ⟨u, hqq⟩ := hb; subst hqq
      exact ne_str (k ads _ s.heap s.toks (.refl _) (by dsimp only [bne]; simp only [strN_beq, listB_eq]; rfl) S)
    · split at hd'
      · rename_i d e e1 e2
        split at hd'
        · rename_i s1 s2
          refine oo ?_
          cases hd'
          obtain ⟨as, r1⟩ := toD_reads S 6 _ _ _ e1 ha
          obtain ⟨bs, r2⟩ := toD_reads S 6 _ _ _ e2 hb
          exact ne_dataH r1 r2 s1 s2 (by have := O.un; lia) (k ads _ s.heap s.toks (.refl _) rfl S)
        · exact nos hd'
      · exact nos hd'
    · exact nos hd'
  · exact nos hd
noncomputable def cmpM (f : Int → Int → Bool) (a b : AV) : Mo AV := fun ρ σ => match a, b with
  | .lin a b, .lin c d => match intB a c with
    | true => some (.bool (f b d), ρ, σ)
    | false => none
  | _, _ => none
noncomputable def fLt := cmpM fun a b => decide (a < b)
noncomputable def fLe := cmpM fun a b => decide (a ≤ b)
noncomputable def fGt := cmpM fun a b => decide (b < a)
noncomputable def fGe := cmpM fun a b => decide (b ≤ a)
theorem oCmp {f : Int → Int → Bool} (t₀ : Value → Value → Sem Value) (hf : ∀ z a b, f (z + a) (z + b) = f a b)
    (hw : ∀ {A : Around} {E : Value → Shared → Prop} {s : Shared} {a b : Int} {t u : Tok} {Q : Value → Shared → Prop}, Q (.bool (f a b)) s → wpAny (model W.prog W.w) A (t₀ (.int a t) (.int b u)) Q E s) :
    OpR W cx t₀ (cmpM f) := by
  intro ads a b x y ha hb ρ σ v ρ' σ' hd s Q E S k
  refine opq fun PP oo => ?_
  dsimp only [cmpM] at hd
  split at hd
  · refine gB hd fun za hd => ?_
    replace k := KK.of hd k
    refine oo ?_
    cases intB_is za
    obtain ⟨t, hqq⟩ := ha; subst hqq
    obtain ⟨u, hqq⟩ := hb; subst hqq
    exact hw (k ads _ s.heap s.toks (.refl _) (by rw [hf]; rfl) S)
  · exact nos hd
theorem oLt : OpR W cx (compareOp .Lt) fLt := oCmp _ (fun z a b => by simp) lt_int
theorem oLe : OpR W cx (compareOp .LtE) fLe := oCmp _ (fun z a b => by simp) le_int
theorem oGt : OpR W cx (compareOp .Gt) fGt := oCmp _ (fun z a b => by simp) gt_int
theorem oGe : OpR W cx (compareOp .GtE) fGe := oCmp _ (fun z a b => by simp) ge_int
noncomputable def isNone : AV → Option Bool
  | .none => some true
  | .wr _ => Option.none
  | .ty _ => some false
  | _ => some false
theorem isNone_VR {ads : List Addr} {a : AV} {v : Value} {b : Bool} (h : isNone a = some b) (hv : VR W.q ads a v) : (v == .none) = b := by
  cases a with
  | none => cases h; cases hv; rfl
  | wr _ => cases h
  | ref k => cases h; obtain ⟨a, _, rfl⟩ := hv; rfl
  | kref k => cases h; obtain ⟨a, _, rfl, _⟩ := hv; rfl
  | lin a b => cases h; obtain ⟨a, rfl⟩ := hv; rfl
  | str a => cases h; obtain ⟨a, rfl⟩ := hv; rfl
  | txt a => cases h; obtain ⟨a, rfl⟩ := hv; rfl
  | bool b => cases h; cases hv; rfl
  | ty n => cases h; cases hv; rfl
/-- `is`: with None, or two types -/
noncomputable def fIs (a b : AV) : Mo AV := fun ρ σ => match b with
  | .none => match isNone a with
    | some r => some (.bool r, ρ, σ)
    | Option.none => Option.none
  | .ty m => match a with
    | .ty n => match Nat.beq n m with
      | true => some (.bool true, ρ, σ)
      | false => Option.none
    | _ => Option.none
  | _ => Option.none
noncomputable def fIsNot (a b : AV) : Mo AV := fun ρ σ => match b with
  | .none => match isNone a with
    | some r => some (.bool (!r), ρ, σ)
    | Option.none => Option.none
  | .ty m => match a with
    | .ty n => match Nat.beq n m with
      | true => some (.bool false, ρ, σ)
      | false => Option.none
    | _ => Option.none
  | _ => Option.none
theorem oIs : OpR W cx (compareOp .Is) fIs := by
  intro ads a b x y ha hb ρ σ v ρ' σ' hd s Q E S k
  refine opq fun PP oo => ?_
  dsimp only [fIs] at hd
  split at hd
  · split at hd
    · rename_i r e
      replace k := KK.of hd k
      refine oo ?_
      subst hb
      refine is_none_gen (k ads _ s.heap s.toks (.refl _) ?_ S)
      rw [isNone_VR e ha]; rfl
    · exact nos hd
  · split at hd
    · refine gB hd fun e hd => ?_
      replace k := KK.of hd k
      have hqq := Nat.eq_of_beq_eq_true e; subst hqq
      refine oo ?_
      subst ha; cases hb
      exact wpAny_is_self rfl (k ads _ s.heap s.toks (.refl _) rfl S)
    · exact nos hd
  · exact nos hd
theorem oIsNot : OpR W cx (compareOp .IsNot) fIsNot := by
  intro ads a b x y ha hb ρ σ v ρ' σ' hd s Q E S k
  refine opq fun PP oo => ?_
  dsimp only [fIsNot] at hd
  split at hd
  · split at hd
    · rename_i r e
      replace k := KK.of hd k
      refine oo ?_
      subst hb
      refine isnot_none_gen (k ads _ s.heap s.toks (.refl _) ?_ S)
      rw [isNone_VR e ha]; rfl
    · exact nos hd
  · split at hd
    · refine gB hd fun e hd => ?_
      replace k := KK.of hd k
      have hqq := Nat.eq_of_beq_eq_true e; subst hqq
      refine oo ?_
      subst ha; cases hb
      exact wpAny_isNot_self rfl (k ads _ s.heap s.toks (.refl _) rfl S)
    · exact nos hd
  · exact nos hd
noncomputable def strsO : List AV → Option (List (List Nat))
  | [] => some []
  | .str x :: r => match strsO r with | some l => some (x :: l) | none => none
  | _ :: _ => none
theorem strsAre {ads : List Addr} : ∀ (l : List AV) (xs : List (List Nat)) (vs : List Value), strsO l = some xs → VRs W.q ads l vs → StrsAre vs (xs.map strN)
  | [], xs, [], e, _ => by cases e; exact .nil
  | a :: r, xs, v :: vs, e, ⟨hv, hr⟩ => by
    cases a with
    | str x =>
      dsimp only [strsO] at e
      split at e
      · rename_i l e1
        cases Option.some.inj e
        obtain ⟨t, hqq⟩ := hv; subst hqq
        exact .cons _ _ (strsAre r l vs e1 hr)
      · exact nos e
    | _ => cases e
  | [], _, _ :: _, _, hv => hv.elim
  | _ :: _, _, [], _, hv => hv.elim
noncomputable def anyB (y : List Nat) : List (List Nat) → Bool
  | [] => false
  | x :: r => match listB x y with | true => true | false => anyB y r
theorem anyB_eq (y : List Nat) : ∀ l, (l.map strN).any (· == strN y) = anyB y l
  | [] => rfl
  | x :: r => by
    simp only [List.map_cons, List.any_cons, anyB_eq y r, anyB, strN_beq, ← listB_eq]
    cases listB x y <;> rfl
/-- `in`: a text in a text, a text in a list of texts -/
noncomputable def fIn (a b : AV) : Mo AV := fun ρ σ => match a, b with
  | .str y, .str x => some (.bool (!(Builtin.Str.occurrences (strN x) (strN y) 0 x.length 1).isEmpty), ρ, σ)
  | .str y, .ref i => match σ.get i with
    | some (.list l) => match strsO l with
      | some xs => some (.bool (anyB y xs), ρ, σ)
      | none => none
    | _ => none
  | _, _ => none
theorem oIn : OpR W cx (compareOp .In) fIn := by
  intro ads a b x y ha hb ρ σ v ρ' σ' hd s Q E S k
  refine opq fun PP oo => ?_
  dsimp only [fIn] at hd
  split at hd
  · replace k := KK.of hd k
    refine oo ?_
    obtain ⟨t, hqq⟩ := ha; subst hqq
    obtain ⟨u, hqq⟩ := hb; subst hqq
    exact PyProof.Rows.in_str (k ads _ s.heap s.toks (.refl _) (by rw [strN_len]; rfl) S)
  · split at hd
    · rename_i l e
      split at hd
      · rename_i xs e1
        replace k := KK.of hd k
        refine oo ?_
        obtain ⟨t, hqq⟩ := ha; subst hqq
        obtain ⟨a, o, rfl, _, ho, vs, n, rfl, r⟩ := S.at hb e
        exact in_list_strs ⟨_, ho, rfl, _, rfl⟩ (strsAre l xs vs e1 r) (k ads _ s.heap s.toks (.refl _) (by simp only [anyB_eq]; rfl) S)
      · exact nos hd
    · exact nos hd
  · exact nos hd
end


noncomputable def apF (F : List AV → Sto → Option (AV × Sto)) (vs : List AV) : Mo AV := fun ρ σ => match F vs σ with
  | some (v, σ') => some (v, ρ, σ')
  | none => none
noncomputable def SF (W : Wo) (n : Nat) (f : Value) (F : List AV → Sto → Option (AV × Sto)) : Prop :=
  ∀ cx, Ok W n cx → ∀ ads vs xs, VRs W.q ads vs xs → TAt W cx (VRw W) ads (call f xs) (apF F vs)
theorem SF.le {W : Wo} {n m : Nat} {f : Value} {F : List AV → Sto → Option (AV × Sto)} (h : SF W n f F) (hle : n ≤ m) : SF W m f F := fun cx O => h cx ⟨O.hh, by have := O.dp; lia, by have := O.un; lia, O.kin, O.top, O.loc, O.fk, O.gl, O.bi, O.hq, O.fr⟩
theorem Ok.le {W : Wo} {n m : Nat} {cx : Cx} (O : Ok W m cx) (hle : n ≤ m) : Ok W n cx := ⟨O.hh, by have := O.dp; lia, by have := O.un; lia, O.kin, O.top, O.loc, O.fk, O.gl, O.bi, O.hq, O.fr⟩

/-! arguments -/
noncomputable abbrev TA (W : Wo) (cx : Cx) (pos : Pos) (args : List Expr) (d : Mo (List AV)) : Prop := T W cx (VRs W.q) (spliced (backTo pos (starEach args cx.env))) d
section
variable {W : Wo} {cx : Cx} {n : Nat}
theorem sArgs0 {pos : Pos} : TA W cx pos [] (ret []) := fun _ => TAt.ret (R := VRs W.q) (b := []) trivial
theorem sArgs {pos : Pos} {e : Expr} {rest : List Expr} {d : Mo AV} {dr : Mo (List AV)} (h1 : TE W cx e d) (h2 : TA W cx pos rest dr)
    (he : ∀ env, starEach (e :: rest) env = (false, eval e env) :: starEach rest env := by intro _; rfl) : TA W cx pos (e :: rest) (bnd d fun v => bnd dr fun vs => ret (v :: vs)) := by
  intro ads ρ σ v ρ' σ' hd s Q E S k
  refine opq fun PP oo => ?_
  refine bnd_elim hd fun a ρ₁ σ₁ e1 hd => ?_
  refine bnd_elim hd fun as ρ₂ σ₂ e2 hd => ?_
  replace k := KK.of hd k
  refine oo ?_
  rw [he]
  show wpAny _ _ (spliced ((false, eval e cx.env) :: backTo pos (starEach rest cx.env))) Q E s
  rw [spliced]
  dsimp only [↓dreduceIte]
  refine wpAny_bind (h1 _ _ _ _ _ _ e1 s _ _ S fun ads₁ x h₁ tk₁ X₁ r₁ S₁ => wpAny_bind (wpAny_pure (wpAny_bind (wpAny_holding ?_))))
  refine h2 _ _ _ _ _ _ e2 _ _ _ S₁ fun ads₂ xs h₂ tk₂ X₂ r₂ S₂ => wpAny_pure ?_
  exact k ads₂ _ h₂ tk₂ (X₁.trans X₂) ⟨r₁.mono X₂, r₂⟩ S₂
/-- the callee's keeper is known at every heap that keeps the written part -/
noncomputable def Kp (W : Wo) (f : Value) : Prop := ∀ h, W.K.In h → ∃ k, (k = Keeper.frame ∨ k = Keeper.machine ∨ k = Keeper.boundFrame) ∧ Looks (model W.prog W.w) h (keeperOf f) k
theorem Kp.of {W : Wo} {f : Value} (h : keepIn W.K f = true) : Kp W f := keeps_K h
theorem looks_pure {M : Model} {h : Heap} {α : Type} {t : Sem α} {a : α} (e : t = pure a) : Looks M h t a := Looks.of_pure e
theorem Kp.builtin {W : Wo} {id : String} : Kp W (.builtin id) := fun _ _ => ⟨_, .inr (.inl rfl), looks_pure rfl⟩
theorem Kp.type {W : Wo} {id : String} : Kp W (.type id) := fun _ _ => ⟨_, .inr (.inl rfl), looks_pure rfl⟩
theorem evalArgs_T {f : Value} {pos : Pos} {args : List Expr} {d : Mo (List AV)} (h : TA W cx pos args d) (hp : (backTo pos (starEach args cx.env)).any (·.1) = false)
    {ads : List Addr} {ρ ρ' : Loc} {σ σ' : Sto} {vs : List AV} (e : d ρ σ = some (vs, ρ', σ')) {s : Shared} {Q : Args → Shared → Prop} {E : Value → Shared → Prop} (S : St W cx ads ρ σ s.heap)
    (k : ∀ ads' xs h' tk, Ext ads ads' → VRs W.q ads' vs xs → St W cx ads' ρ' σ' h' → Q ⟨xs, []⟩ { s with heap := h', toks := tk }) :
    wpAny (model W.prog W.w) cx.A (evalArgs f true (backTo pos (starEach args cx.env)) []) Q E s := by
  have main : wpAny (model W.prog W.w) cx.A (spliced (backTo pos (starEach args cx.env))) (fun vs s' => Q ⟨vs, []⟩ s') E s := h ads _ _ _ _ _ e s _ _ S k
  cases args with
  | nil =>
    show wpAny _ _ (evalArgs f true [] []) Q E s
    dsimp only [evalArgs]
    show wpAny _ _ (spliced [] >>= _) Q E s
    refine wpAny_bind (wpAny_mono main (fun vs s' h' => ?_) fun _ _ x => x)
    refine wpAny_holding ?_
    exact wpAny_bind (wpAny_pure (wpAny_bind (wpAny_pure (wpAny_pure h'))))
  | cons a r =>
    cases hs : backTo pos (starEach (a :: r) cx.env) with
    | nil =>
      rw [hs] at main
      dsimp only [evalArgs]
      show wpAny _ _ (spliced [] >>= _) Q E s
      refine wpAny_bind (wpAny_mono main (fun vs s' h' => ?_) fun _ _ x => x)
      refine wpAny_holding ?_
      exact wpAny_bind (wpAny_pure (wpAny_bind (wpAny_pure (wpAny_pure h'))))
    | cons x xs =>
      obtain ⟨b, t⟩ := x
      rw [hs] at main hp
      have hb : b = false := by
        cases b with
        | false => rfl
        | true => simp at hp
      subst hb
      exact evalArgs_plain main
theorem callWith_T {f : Value} {first : List Value} {p pos : Pos} {args : List Expr} {d : Mo (List AV)} {ap : List AV → Mo AV} (O : Ok W n cx) (h : TA W cx p args d) (hp : (backTo p (starEach args cx.env)).any (·.1) = false) (hk : Kp W f)
    {ads : List Addr} (ha : ∀ ads' vs xs, Ext ads ads' → VRs W.q ads' vs xs → TAt W cx (VRw W) ads' (call f (first ++ xs)) (ap vs)) : TAt W cx (VRw W) ads (callWith pos f first (backTo p (starEach args cx.env)) []) (bnd d ap) := by
  intro ρ σ v ρ' σ' hd s Q E S k
  refine bnd_elim hd fun as ρ₁ σ₁ e1 hd => ?_
  refine callWith_of (P := fun h => W.K.In h) (by simp [hp]) hk ?_
  refine evalArgs_T h hp e1 S fun ads₁ xs h₁ tk₁ X₁ r₁ S₁ => ⟨?_, ?_⟩
  · obtain ⟨m, F, _⟩ := S₁.open
    exact O.kin.keeps F.keep
  · exact ha ads₁ as xs X₁ r₁ _ _ _ _ _ hd _ _ _ S₁ fun ads₃ z h₃ tk₃ X₃ r₃ S₃ => k ads₃ z h₃ tk₃ (X₁.trans X₃) r₃ S₃
/-- a call of something named -/
theorem sCall {x : Str} {p pos : Pos} {args : List Expr} {f : Value} {d : Mo (List AV)} {F : List AV → Sto → Option (AV × Sto)} {m : Nat} (O : Ok W n cx) (hf : TE W cx (.Name x p) (ret (.wr f)))
    (h : TA W cx pos args d) (hF : SF W m f F) (hk : Kp W f) (hm : m ≤ n) (hp : ∀ env, (backTo pos (starEach args env)).any (·.1) = false := by intro _; rfl) :
    TE W cx (.Call (.Name x p) args [] pos) (bnd d (apF F)) := by
  intro ads ρ σ v ρ' σ' hd s Q E S k
  refine wpAny_Call_NameR (hf _ _ _ _ _ _ rfl s _ _ S fun ads₁ x h₁ tk₁ X₁ r₁ S₁ => ?_)
  subst r₁
  refine callWith_T (first := []) O h (hp _) hk (fun ads' vs xs _ r => ?_) _ _ _ _ _ hd _ _ _ S₁ fun ads₃ z h₃ tk₃ X₃ r₃ S₃ => k ads₃ z h₃ tk₃ (X₁.trans X₃) r₃ S₃
  exact hF cx (O.le hm) ads' vs xs r

/-! entering a def -/
noncomputable def zipN : List Nat → List AV → Option (List (Nat × AV))
  | [], [] => some []
  | k :: ks, v :: vs => match zipN ks vs with | some l => some ((k, v) :: l) | none => none
  | _, _ => none
noncomputable def outF : Option (Fl × Loc × Sto) → Option (AV × Sto)
  | some (.ret v, _, σ) => some (v, σ)
  | some (.next, _, σ) => some (.none, σ)
  | _ => none
noncomputable def defF (ps : List Nat) (d : Mo Fl) : List AV → Sto → Option (AV × Sto) := fun vs σ => match zipN ps vs with
  | some l => outF (d ⟨l, []⟩ σ)
  | none => none
theorem zipN_look {ads : List Addr} {q : Int} : ∀ (ps : List Nat) (vs : List AV) (xs : List Value) (l : List (Nat × AV)), ps.Nodup → (∀ k ∈ ps, k < NN) → zipN ps vs = some l → VRs q ads vs xs →
    (∀ k v, look l k = some v → k ∈ ps ∧ ∃ x, (((ps.map nm).zip xs).reverse.lookup (nm k)) = some x ∧ VR q ads v x) ∧ (∀ y, (∀ k ∈ ps, y ≠ nm k) → ((ps.map nm).zip xs).reverse.lookup y = none)
  | [], [], [], l, _, _, e, _ => by
    cases Option.some.inj e
    exact ⟨(fun k v h => by cases h), fun y _ => by rfl⟩
  | p :: ps, v :: vs, x :: xs, l, hn, hl, e, ⟨hv, hr⟩ => by
    dsimp only [zipN] at e
    split at e
    · rename_i l' e'
      cases Option.some.inj e
      obtain ⟨hp, hn'⟩ := List.nodup_cons.mp hn
      obtain ⟨i1, i2⟩ := zipN_look ps vs xs l' hn' (fun k hk => hl k (List.mem_cons_of_mem _ hk)) e' hr
      have hpl := hl p (List.mem_cons_self ..)
      simp only [List.map_cons, List.zip_cons_cons, List.reverse_cons, List.lookup_append]
      refine ⟨fun k u h => ?_, fun y hy => ?_⟩
      · dsimp only [look] at h
        rw [beq_dec] at h
        refine (Classical.em (p = k)).elim (fun q => ?_) fun q => ?_
        · subst q
          simp only [decide_true] at h
          cases Option.some.inj h
          refine ⟨List.mem_cons_self .., x, ?_, hv⟩
          rw [i2 (nm p) fun k hk e => hp (by exact (nm_inj hpl (hl k (List.mem_cons_of_mem _ hk)) e) ▸ hk)]
          simp
        · simp only [q, decide_false] at h
          obtain ⟨j1, y, j2, j3⟩ := i1 k u h
          exact ⟨List.mem_cons_of_mem _ j1, y, by rw [j2]; rfl, j3⟩
      · rw [i2 y fun k hk => hy k (List.mem_cons_of_mem _ hk)]
        have : (y == nm p) = false := beq_eq_false_iff_ne.mpr (hy p (List.mem_cons_self ..))
        simp [List.lookup_cons, this]
    · exact nos e
  | [], _ :: _, _, _, _, _, e, _ => by cases e
  | _ :: _, [], _, _, _, _, e, _ => by cases e
  | [], [], _ :: _, _, _, _, _, h => h.elim
  | _ :: _, _ :: _, [], _, _, _, _, h => h.elim
theorem zipN_len {l : List (Nat × AV)} : ∀ (ps : List Nat) (vs : List AV), zipN ps vs = some l → ps.length = vs.length
  | [], [], _ => rfl
  | p :: ps, v :: vs, e => by
    dsimp only [zipN] at e
    split at e
    · rename_i l' e'
      simp [zipN_len (l := l') ps vs e']
    · exact nos e
  | [], _ :: _, e => by cases e
  | _ :: _, [], e => by cases e
section
variable {ads : List Addr} {ρ : Loc} {σ : Sto} {h : Heap}
/-- the caller's ground, with what the call may turn hidden -/
theorem St.hide (S : St W cx ads ρ σ h) {m : Str → Option Value} (F : Fr cx.base cx.N h m) : cx.base.StaysIn (hideAll h ads) ∧ (∃ o, (hideAll h ads).get? cx.N = some o ∧ h.get? cx.N = some o) ∧ Fr cx.base cx.N (hideAll h ads) m := by
  have nm : ∀ b o, cx.base.get? b = some o → b ∉ ads := fun b o e q => by
    have := (S.new b q).2.1
    cases (e).symm.trans this
  have st : cx.base.StaysIn (hideAll h ads) := fun b o e => hideAll_get _ (F.keep b o e) (nm b o e)
  have nN : cx.N ∉ ads := fun q => (S.new _ q).1 rfl
  obtain ⟨oN, es, ep, hN, r⟩ := F.ns
  exact ⟨st, ⟨oN, hideAll_get _ hN nN, hN⟩, ⟨⟨oN, es, ep, hideAll_get _ hN nN, r⟩, st, F.above⟩⟩
/-- behind the call: the caller's ground again -/
theorem St.back {cx' : Cx} {ads' : List Addr} {ρ' : Loc} {σ' : Sto} {h' : Heap} (S : St W cx ads ρ σ h) (hb : cx'.base = hideAll h ads) (S' : St W cx' ads' ρ' σ' h') (X : Ext ads ads') : St W cx ads' ρ σ' h' := by
  obtain ⟨m, F, hm⟩ := S.open
  obtain ⟨st, ⟨oN, hN, hN'⟩, FG⟩ := S.hide F
  obtain ⟨m', F', hm'⟩ := S'.open
  have keepN : h'.get? cx.N = some oN := F'.keep _ _ (hb ▸ hN)
  have old : ∀ b o, (hideAll h ads).get? b = some o → h'.get? b = some o ∧ b ∉ ads' := fun b o e => ⟨F'.keep _ _ (hb ▸ e), fun hm => by
    have := (S'.new b hm).2.1
    rw [hb, e] at this; cases this⟩
  refine ⟨⟨m, ?_, fun k v e => ?_⟩, fun k c e => ?_, S'.nd, S'.len, fun a ha => ?_, S'.obj, fun p hp => ?_⟩
  rotate_right
  · obtain ⟨⟨o, e, fz⟩, p2, p3, p4⟩ := S.pv p hp
    obtain ⟨q1, q2⟩ := old p.1 o (hideAll_get _ e p3)
    exact ⟨⟨o, q1, fz⟩, p2, q2, p4⟩
  · obtain ⟨oN', es, ep, hN2, r⟩ := F.ns
    cases Option.some.inj ((hN').symm.trans hN2)
    exact ⟨⟨oN, es, ep, keepN, r⟩, fun b o e => F'.keep b o (hb ▸ st b o e), F.above⟩
  · obtain ⟨a1, x, a2, a3⟩ := hm k v e
    exact ⟨a1, x, a2, a3.mono X⟩
  · obtain ⟨a, e1, e2⟩ := S.cel k c e
    exact ⟨a, X.get e1, e2⟩
  · obtain ⟨a1, a2, o, e⟩ := S'.new a ha
    refine ⟨fun q => ?_, ?_, o, e⟩
    · rw [q, hb, hN] at a2; cases a2
    · cases q : cx.base.get? a with
      | none => rfl
      | some o' => rw [hb, st _ _ q] at a2; cases a2
end
/-- the frames below, for the callee -/
theorem Ok.push (O : Ok W n cx) {ads : List Addr} {ρ : Loc} {σ : Sto} {h : Heap} (S : St W cx ads ρ σ h) {env : Env} {L : Addr} (hL : L = h.objs.size) (hf : env.frame = some L) (hfk : env.scope.kind = .function) (hloc : env.locals = L) (hg : env.globals = mainGlobals) (hbi : env.builtins = builtinsNs)
    {m : Nat} (hm : m + 1 ≤ n) : Ok W m ⟨cx.A.deeper env, hideAll h ads, L, env, [], []⟩ := by
  obtain ⟨mm, F, _⟩ := S.open
  obtain ⟨st, _, FG⟩ := S.hide F
  refine ⟨O.hh, ?_, ?_, fun b o e => st b o (O.kin b o e), O.top.keeps st, hloc, hfk, hg, hbi, O.hq, ?_⟩
  · show cx.A.depth + 1 + m < recursionLimit
    have := O.dp; lia
  · show cx.A.units + 3 + 8 * m + 100 < cLine
    have := O.un; lia
  · obtain ⟨b₀, fs, e1, e2⟩ := O.fr
    refine ⟨b₀, env :: fs, Around.frames_deeper e1, fun h' m' F' _ => ?_⟩
    obtain ⟨s1, s2⟩ := e2 _ _ FG fun p hp => by
      obtain ⟨⟨o, e, r⟩, _, p3, _⟩ := S.pv p (List.mem_append_right _ hp)
      exact ⟨o, hideAll_get _ e p3, r⟩
    have hs : b₀.StaysIn h' := fun b o e => F'.keep b o (s1 b o e)
    refine ⟨hs, .cons (by rw [hfk]; decide) hf F'.ns ?_ (s2.of_keeps fun b o e _ => ⟨o, F'.keep b o e, rfl⟩)⟩
    cases q : b₀.get? L with
    | none => rfl
    | some o' =>
      exfalso
      have := Heap.lt_size (s1 L o' q)
      rw [hideAll_size, ← hL] at this
      exact absurd this (Nat.lt_irrefl _)
noncomputable def argsOf (kws : List Str) (xs : List Value) : Args := ⟨xs.take (xs.length - kws.length), kws.zip (xs.drop (xs.length - kws.length))⟩
theorem argsOf_nil (xs : List Value) : argsOf [] xs = ⟨xs, []⟩ := by simp [argsOf]
/-- a call at the level of code, the last ones by name -/
noncomputable def SC (W : Wo) (n : Nat) (f : Value) (kws : List Str) (F : List AV → Sto → Option (AV × Sto)) : Prop :=
  ∀ cx, Ok W n cx → ∀ ads vs xs, VRs W.q ads vs xs → ∀ ρ σ v σ', F vs σ = some (v, σ') → ∀ (s : Shared) (R : Result → Shared → Prop), St W cx ads ρ σ s.heap →
    (∀ ads' y h' tk, Ext ads ads' → VR W.q ads' v y → St W cx ads' ρ σ' h' → R (.ok (.ret y)) { s with heap := h', toks := tk }) → codeAny (model W.prog W.w) cx.A (.call f (argsOf kws xs)) R s
theorem SC.le {n m : Nat} {W : Wo} {f : Value} {kws : List Str} {F : List AV → Sto → Option (AV × Sto)} (h : SC W n f kws F) (hle : n ≤ m) : SC W m f kws F := fun cx O => h cx (O.le hle)
theorem SC.sf {n : Nat} {W : Wo} {f : Value} {F : List AV → Sto → Option (AV × Sto)} (h : SC W n f [] F) : SF W n f F := by
  intro cx O ads vs xs hv ρ σ v ρ' σ' hd s Q E S k
  refine opq fun PP oo => ?_
  dsimp only [apF] at hd
  split at hd
  · rename_i v₁ σ₁ hd'
    replace k := KK.of hd k
    have := h cx O ads vs xs hv ρ σ _ _ hd' s (fun r s' => match r with | .ok (.ret v) => Q v s' | .ok _ => False | .error e => E e s') S fun ads' y h' tk X r S' => k ads' y h' tk X r S'
    rw [argsOf_nil] at this
    refine oo ?_
    exact wpAny_call this
  · exact nos hd
theorem SC_def {f : Addr} {name qual : Str} {params : Arguments} {body : List Stmt} {scope : Scope} {dV kV doc pm cdv ct oc : Value} {an od : Option Addr} {osl : Array (Option Value)} {ps : List Nat} {d : Mo Fl} (kws : List Str)
    (ho : W.K.lookup f = some ⟨oc, od, .func (fnOf name qual params body scope dV kV doc pm an cdv ct), osl⟩) (hcd : codeIn W.K cdv qual = true)
    (hbind : ∀ (s : Shared) (xs : List Value), W.K.In s.heap → xs.length = ps.length → BindsTo s (fnOf name qual params body scope dV kV doc pm an cdv ct) (argsOf kws xs) ((ps.map nm).zip xs))
    (hps : ps.Nodup) (hpn : ∀ k ∈ ps, k < NN) (hloc : ∀ k ∈ ps, scope.names.lookup (nm k) = some .local)
    (hbody : ∀ cx', Ok W n cx' → cx'.env = envOf qual scope cx'.N f cdv → TSs W cx' body d)
    (hco : scope.isCoroutine = false := by rfl) (hgen : scope.isGenerator = false := by rfl) (hk : scope.kind = .function := by rfl)
    (hcell : ∀ x ∈ scope.names, x.2 ≠ .cell := by decide) : SC W (n + 1) (.ref f) kws (defF ps d) := by
  intro cx O ads vs xs hv ρ σ v σ' hd' s R S k
  refine opq fun PP oo => ?_
  dsimp only [defF] at hd'
  · split at hd'
    · rename_i l el
      obtain ⟨m, F, hm⟩ := S.open
      obtain ⟨st, _, FG⟩ := S.hide F
      have hlen : xs.length = ps.length := (VRs.length hv).symm.trans (zipN_len ps vs el).symm
      have X := O.kin.keeps F.keep
      refine oo ?_
      refine (codeAny_call_def (fd := fnOf name qual params body scope dV kV doc pm an cdv ct) (body := body) (binds := (ps.map nm).zip xs) (by have := O.dp; lia) (X _ _ ho) rfl (O.top.nolimit.keeps F.keep) (codeRec_of X hcd) rfl (hbind _ xs X hlen) hcell ?_ (fun h₁ hns hk₁ => ?_) hco hgen hk)
      · intro x hx
        obtain ⟨k, hk, e⟩ := List.mem_map.mp (List.of_mem_zip hx).1
        rw [← e]; exact hloc k hk
      · have O' : Ok W n ⟨cx.A.deeper (envOf qual scope s.heap.objs.size f cdv), hideAll s.heap ads, s.heap.objs.size, envOf qual scope s.heap.objs.size f cdv, [], []⟩ := O.push S rfl rfl hk rfl rfl rfl (Nat.le_refl _)
        obtain ⟨z1, z2⟩ := zipN_look ps vs xs l hps hpn el hv
        have S' : St W ⟨cx.A.deeper (envOf qual scope s.heap.objs.size f cdv), hideAll s.heap ads, s.heap.objs.size, envOf qual scope s.heap.objs.size f cdv, [], []⟩ ads ⟨l, []⟩ σ h₁ := by
          refine ⟨⟨_, ⟨hns, fun b o e => hk₁ b o (of_hideAll _ e), Nat.le_of_eq (hideAll_size _ _)⟩, fun k v e => ?_⟩, (fun k c e => by cases e), S.nd, S.len, fun a ha => ?_, fun k ao e => ?_, (fun p hp => absurd (show p ∈ ([] : List (Addr × Obj)) from hp) List.not_mem_nil)⟩
          · obtain ⟨j1, x, j2, j3⟩ := z1 k v e
            exact ⟨hpn k j1, x, j2, j3⟩
          · obtain ⟨_, _, o, e⟩ := S.new a ha
            exact ⟨Nat.ne_of_lt (Heap.lt_size e), hideAll_none _ ha, o, hk₁ _ _ e⟩
          · obtain ⟨a, o, e1, e2, e3⟩ := S.obj k ao e
            exact ⟨a, o, e1, hk₁ _ _ e2, e3⟩
        dsimp only [outF] at hd'
        split at hd'
        · rename_i u ρ₂ σ₂ eb
          cases Option.some.inj hd'
          refine hbody _ O' rfl ads _ _ _ _ _ eb _ _ _ S' fun ads₂ fl h₂ tk₂ X₂ r₂ S₂ => ?_
          obtain ⟨x, rfl, rx⟩ := r₂
          exact k ads₂ x h₂ tk₂ X₂ rx (S.back rfl S₂ X₂)
        · rename_i ρ₂ σ₂ eb
          cases Option.some.inj hd'
          refine hbody _ O' rfl ads _ _ _ _ _ eb _ _ _ S' fun ads₂ fl h₂ tk₂ X₂ r₂ S₂ => ?_
          subst r₂
          exact k ads₂ _ h₂ tk₂ X₂ rfl (S.back rfl S₂ X₂)
        · exact nos hd'
    · exact nos hd'
end


/-! targets -/
noncomputable abbrev TG (W : Wo) (cx : Cx) (t : Expr) (g : AV → Mo Unit) : Prop := ∀ ads v x, VR W.q ads v x → TAt W cx UR ads (assign t cx.env x) (g v)
noncomputable def putL (k : Nat) (v : AV) : Mo Unit := fun ρ σ => some ((), { ρ with loc := lput ρ.loc k v }, σ)
noncomputable def putC (k : Nat) (v : AV) : Mo Unit := fun ρ σ => match look ρ.cel k with
  | some c => match σ.get c with
    | some (.cell _) => match σ.put c (.cell (some v)) with
      | some σ' => some ((), ρ, σ')
      | none => none
    | _ => none
  | none => none
section
variable {W : Wo} {cx : Cx} {n : Nat}
theorem storeL (O : Ok W n cx) (k : Nat) {x : Str} (hx : nm k = x) (hk : cx.env.kindOf x = some .local) (hn : k < NN) (ads : List Addr) (v : AV) (y : Value) (hv : VR W.q ads v y) : TAt W cx UR ads (storeName cx.env x y) (putL k v) := by
  intro ρ σ a ρ' σ' hd s Q E S kk
  cases hd
  subst hx
  obtain ⟨m, F, hm⟩ := S.open
  refine wpAny_storeName_local hk (O.loc ▸ F.ns) (fun h' hns hs => ?_) (by rw [O.fk]; rfl)
  rw [O.loc] at hns hs
  exact kk ads () h' _ (.refl _) trivial (S.store hn F hm hv hns hs)
theorem storeC (O : Ok W n cx) (k : Nat) {x : Str} (hx : nm k = x) (hk : cx.env.kindOf x = some .cell) (ads : List Addr) (v : AV) (y : Value) (hv : VR W.q ads v y) : TAt W cx UR ads (storeName cx.env x y) (putC k v) := by
  intro ρ σ a ρ' σ' hd s Q E S kk
  subst hx
  unfold putC at hd
  split at hd
  · rename_i c ec
    split at hd
    · rename_i u eu
      split at hd
      · rename_i σ₁ es
        cases hd
        obtain ⟨ca, e1, e2⟩ := S.cel k c ec
        obtain ⟨ca', o, e3, e4, e5⟩ := S.obj c _ eu
        cases Option.some.inj ((e1).symm.trans e3)
        have hcell : ∃ v₀, s.heap.IsCell ca v₀ := by
          cases u with
          | none => exact ⟨_, o, e4, e5⟩
          | some u => obtain ⟨w, e6, _⟩ := e5; exact ⟨_, o, e4, e6⟩
        obtain ⟨v₀, hc⟩ := hcell
        refine wpAny_storeName_cell O.fk hk e2 hc fun h' hc' hs => ?_
        obtain ⟨o', ho', hd'⟩ := hc'
        exact kk ads () h' _ (.refl _) trivial (S.upd (ao := .cell (some v)) e1 hs.extBut ho' ⟨y, hd', hv⟩ es)
      · exact nos hd
    · exact nos hd
  · exact nos hd
theorem tLoc (O : Ok W n cx) (k : Nat) {x : Str} {pos : Pos} (hx : nm k = x) (hk : cx.env.kindOf x = some .local) (hn : k < NN) : TG W cx (.Name x pos) (putL k) := fun ads v y hv =>
  (storeL O k hx hk hn ads v y hv).via fun _ _ _ h => wpAny_assign_Name h
theorem tCel (O : Ok W n cx) (k : Nat) {x : Str} {pos : Pos} (hx : nm k = x) (hk : cx.env.kindOf x = some .cell) : TG W cx (.Name x pos) (putC k) := fun ads v y hv =>
  (storeC O k hx hk ads v y hv).via fun _ _ _ h => wpAny_assign_Name h
inductive TGs (W : Wo) (cx : Cx) : List Expr → List (AV → Mo Unit) → Prop
  | nil : TGs W cx [] []
  | cons {t : Expr} {ts : List Expr} {g : AV → Mo Unit} {gs : List (AV → Mo Unit)} : TG W cx t g → (∀ env, assignEach (t :: ts) env = (false, assign t env) :: assignEach ts env) → TGs W cx ts gs → TGs W cx (t :: ts) (g :: gs)
noncomputable def seqG : List (AV → Mo Unit) → List AV → Mo Unit
  | [], [] => ret ()
  | g :: gs, v :: vs => bnd (g v) fun _ => seqG gs vs
  | _, _ => bad
theorem TGs.each {ts : List Expr} {gs : List (AV → Mo Unit)} (h : TGs W cx ts gs) : (assignEach ts cx.env).length = gs.length ∧ (assignEach ts cx.env).findIdx? (·.1) = none := by
  induction h with
  | nil => exact ⟨rfl, rfl⟩
  | cons h1 h2 h3 ih =>
    rw [h2]
    exact ⟨by simp [ih.1], by simp [List.findIdx?_cons, ih.2]⟩
theorem TGs.run {ts : List Expr} {gs : List (AV → Mo Unit)} (h : TGs W cx ts gs) : ∀ ads vs xs, VRs W.q ads vs xs → TAt W cx UR ads (assignInOrder ((assignEach ts cx.env).map (·.2)) xs) (seqG gs vs) := by
  induction h with
  | nil =>
    intro ads vs xs hv
    cases vs with
    | nil => cases xs with
      | nil => exact TAt.ret (b := ()) trivial
      | cons _ _ => exact hv.elim
    | cons _ _ => exact TAt.bad
  | cons h1 h2 h3 ih =>
    intro ads vs xs hv
    cases vs with
    | nil => exact TAt.bad
    | cons v vs => cases xs with
      | nil => exact hv.elim
      | cons x xs =>
        obtain ⟨hv, hr⟩ := hv
        rw [h2]
        intro ρ σ a ρ' σ' hd s Q E S k
        refine bnd_elim hd fun u ρ₁ σ₁ e1 hd => ?_
        refine wpAny_assignInOrder_more (h1 ads v x hv _ _ _ _ _ e1 s _ _ S fun ads₁ _ h₁ tk₁ X₁ _ S₁ => ?_)
        exact ih ads₁ vs xs (hr.mono X₁) _ _ _ _ _ hd _ _ _ S₁ fun ads₃ z h₃ tk₃ X₃ r₃ S₃ => k ads₃ z h₃ tk₃ (X₁.trans X₃) r₃ S₃
/-- a tuple of targets: what it takes apart is a tuple or a list -/
noncomputable def unpM (gs : List (AV → Mo Unit)) (v : AV) : Mo Unit := fun ρ σ => match v with
  | .ref k => match σ.get k with
    | some (.tup l) => match Nat.beq gs.length l.length with
      | true => seqG gs l ρ σ
      | false => none
    | some (.list l) => match Nat.beq gs.length l.length with
      | true => seqG gs l ρ σ
      | false => none
    | _ => none
  | _ => none
theorem ext_grow {h h' : Heap} (hs : Heap.ExtBut h.objs.size h h') : ∀ b o, h.get? b = some o → h'.get? b = some o :=
  fun b o e => hs b o (fun q => by rw [q, heap_fresh] at e; cases e) e
theorem draw_list {A : Around} {E : Value → Shared → Prop} {it l : Addr} {items : Array Value} : ∀ (j i : Nat) (s : Shared) (Q : List Value → Shared → Prop), s.heap.IsListIter it l i → s.heap.IsList l items → i + j ≤ items.size → l ≠ it →
    (∀ h', h'.IsListIter it l (i + j) → Heap.SameBut it s.heap h' → Q ((items.toList.drop i).take j) { s with heap := h' }) → wpAny (model W.prog W.w) A (draw (.ref it) j) Q E s
  | 0, i, s, Q, hi, hl, hj, hne, k => by
    dsimp only [draw]
    exact wpAny_pure (by simpa using k s.heap (hi) (.refl _ _))
  | j + 1, i, s, Q, hi, hl, hj, hne, k => by
    dsimp only [draw]
    have hlt : i < items.size := by lia
    refine wpAny_bind (wpAny_pyNext_list_item hi hl (x := items[i]) (by simp [hlt]) fun h' hi' hs => ?_)
    refine wpAny_bind (wpAny_holding (draw_list j (i + 1) _ _ hi' (hl.extBut hs.extBut hne) (by lia) hne fun h₂ hi₂ hs₂ => wpAny_pure ?_))
    have := k h₂ (by simp only [show i + (j + 1) = i + 1 + j by lia]; exact hi₂) (hs.trans hs₂)
    rw [List.drop_eq_getElem_cons (hlt), List.take_succ_cons] at this
    exact this
theorem unpackItems_list {A : Around} {E : Value → Shared → Prop} {s : Shared} {l : Addr} {items : Array Value} {Q : List Value → Shared → Prop} (hh : A.handled = none) (hl : s.heap.IsList l items)
    (k : ∀ h', Heap.ExtBut s.heap.objs.size s.heap h' → Q items.toList { s with heap := h' }) : wpAny (model W.prog W.w) A (unpackItems (.ref l) items.size none) Q E s := by
  unfold unpackItems notIterableAtAll
  refine wpAny_bind (wpAny_bind (wpAny_specialOf hl.typeIs slot_list_iter.lookup ?_))
  dsimp only [Option.isSome_some, if_true]
  refine wpAny_pure ?_
  simp only [Bool.false_eq_true, if_false]
  refine wpAny_bind (wpAny_holding (wpAny_pyIter_list hl ?_))
  obtain ⟨ol, hol, hr⟩ := id hl
  have hlt := Heap.lt_size hol
  have hl' : (s.heap.push { cls := .type "list_iterator", data := .fields #[.ref l, .int 0 0] }).IsList l items := hl.push _
  refine wpAny_bind (wpAny_holding (draw_list items.size 0 _ _ ⟨_, Heap.get?_push_size _ rfl, rfl, rfl⟩ hl' (by lia) (Nat.ne_of_lt hlt) fun h' hi' hs => ?_))
  rw [List.drop_zero]
  have e : (items.toList.take items.size) = items.toList := by exact (List.take_of_length_le (by simp))
  rw [e]
  rw [if_neg (by simp)]
  refine wpAny_bind (wpAny_holding (wpAny_pyNext_list_end hh hi' (hl'.extBut hs.extBut (Nat.ne_of_lt hlt)) (by simp) fun h₂ hs₂ => ?_))
  dsimp only [Option.isSome_none, Bool.false_eq_true, if_false]
  refine wpAny_pure (k h₂ fun b o hb e => hs₂ b o hb (hs.extBut b o hb (Heap.get?_push_of_some _ e)))
theorem tTup (O : Ok W n cx) {ts : List Expr} {gs : List (AV → Mo Unit)} {k : Nat} {pos : Pos} (h : TGs W cx ts gs) : TG W cx (.Tuple ts k pos) (unpM gs) := by
  intro ads v x hv ρ σ a ρ' σ' hd s Q E S kk
  refine opq fun PP oo => ?_
  obtain ⟨hl, hf⟩ := h.each
  unfold unpM at hd
  split at hd
  · split at hd
    · rename_i l e
      refine gB hd fun hb hd => ?_
      refine oo ?_
      obtain ⟨a, o, rfl, _, ho, vs, m, rfl, r⟩ := S.at hv e
      have hlen := Nat.eq_of_beq_eq_true hb
      refine wpAny_assign_Tuple O.hh (items := vs.toArray) ⟨_, ho, rfl, _, rfl⟩ (by simp only [hl, hlen, VRs.length r]; simp) hf fun h' hs => ?_
      exact h.run ads l vs r _ _ _ _ _ hd _ _ _ (S.grow (ext_grow hs)) kk
    · rename_i l e
      refine gB hd fun hb hd => ?_
      refine oo ?_
      obtain ⟨a, o, rfl, _, ho, vs, m, rfl, r⟩ := S.at hv e
      have hlen := Nat.eq_of_beq_eq_true hb
      show wpAny _ _ (do standAt pos; unpack (.ref a) (assignEach ts cx.env)) Q E s
      refine wpAny_bind (wpAny_standAt ?_)
      unfold unpack
      simp only [hf, hl, hlen, VRs.length r]
      refine wpAny_bind (wpAny_holding ?_)
      simp only [show vs.length = vs.toArray.size by simp]
      refine unpackItems_list O.hh ⟨_, ho, rfl, _, rfl⟩ fun h' hs => ?_
      exact h.run ads l vs r _ _ _ _ _ hd _ _ _ (S.grow (ext_grow hs)) kk
    · exact nos hd
  · exact nos hd
/-- an assignment to one target -/
theorem sAsg {t value : Expr} {pos : Pos} {d : Mo AV} {g : AV → Mo Unit} (hv : TE W cx value d) (ht : TG W cx t g)
    (he : ∀ env, (assignEach [t] env).map (·.2) = [assign t env] := by intro _; rfl) (hs : ∀ env, swapsWithSole [t] value pos.line env = pure false := by intro _; rfl) (hw : ∀ env, swappedStores [t] value env = pure none := by intro _; rfl) :
    TS W cx (.Assign [t] value pos) (bnd d fun v => bnd (g v) fun _ => ret .next) := by
  intro ads ρ σ v ρ' σ' hd s Q E S k
  refine opq fun PP oo => ?_
  refine bnd_elim hd fun a ρ₁ σ₁ e1 hd => ?_
  refine bnd_elim hd fun u ρ₂ σ₂ e2 hd => ?_
  replace k := KK.of hd k
  refine oo ?_
  refine wpAny_Assign_stores (hv _ _ _ _ _ _ e1 s _ _ S fun ads₁ x h₁ tk₁ X₁ r₁ S₁ => ?_) (hs _) (hw _)
  simp only [he]
  show wpAny _ _ (assign t cx.env x) _ _ _
  exact ht ads₁ a x r₁ _ _ _ _ _ e2 _ _ _ S₁ fun ads₃ z h₃ tk₃ X₃ _ S₃ => k ads₃ _ h₃ tk₃ (X₁.trans X₃) rfl S₃
theorem sAsg3 {t₁ t₂ t₃ value : Expr} {pos : Pos} {d : Mo AV} {g₁ g₂ g₃ : AV → Mo Unit} (hv : TE W cx value d) (h1 : TG W cx t₁ g₁) (h2 : TG W cx t₂ g₂) (h3 : TG W cx t₃ g₃)
    (he : ∀ env, List.map (fun x => Prod.snd x) (assignEach [t₁, t₂, t₃] env) = [assign t₁ env, assign t₂ env, assign t₃ env] := by intro _; rfl) (hw : ∀ env, swappedStores [t₁, t₂, t₃] value env = pure none := by intro _; rfl) :
    TS W cx (.Assign [t₁, t₂, t₃] value pos) (bnd d fun v => bnd (g₁ v) fun _ => bnd (g₂ v) fun _ => bnd (g₃ v) fun _ => ret .next) := by
  intro ads ρ σ v ρ' σ' hd s Q E S k
  refine opq fun PP oo => ?_
  refine bnd_elim hd fun a ρ₁ σ₁ e1 hd => ?_
  refine bnd_elim hd fun u ρ₂ σ₂ e2 hd => ?_
  refine bnd_elim hd fun u ρ₃ σ₃ e3 hd => ?_
  refine bnd_elim hd fun u ρ₄ σ₄ e4 hd => ?_
  replace k := KK.of hd k
  refine oo ?_
  refine wpAny_Assign_three (hv _ _ _ _ _ _ e1 s _ _ S fun ads₁ x h₁ tk₁ X₁ r₁ S₁ => ?_) (he _) (hw _)
  refine h1 ads₁ a x r₁ _ _ _ _ _ e2 _ _ _ S₁ fun ads₂ z h₂ tk₂ X₂ _ S₂ => ?_
  refine h2 ads₂ a x (VR.mono X₂ r₁) _ _ _ _ _ e3 _ _ _ S₂ fun ads₃ z h₃ tk₃ X₃ _ S₃ => ?_
  exact h3 ads₃ a x (VR.mono X₃ (VR.mono X₂ r₁)) _ _ _ _ _ e4 _ _ _ S₃ fun ads₄ z h₄ tk₄ X₄ _ S₄ => k ads₄ _ h₄ tk₄ (X₁.trans (X₂.trans (X₃.trans X₄))) rfl S₄
theorem ldLoc {x : Str} (O : Ok W n cx) (k : Nat) (hx : nm k = x) (hk : cx.env.kindOf x = some .local) : T W cx (VRw W) (loadName cx.env x) (dLoc k) := by
  intro ads ρ σ v ρ' σ' hd' s Q E S kk
  refine opq fun PP oo => ?_
  unfold dLoc at hd'
  split at hd'
  · rename_i u e
    refine oo ?_
    cases hd'
    obtain ⟨m, F, r⟩ := S.fr
    obtain ⟨_, y, e1, e2⟩ := r k _ e
    exact wpAny_loadName_local O.fk hk (O.loc ▸ F.ns) (hx ▸ e1) (kk ads _ s.heap s.toks (.refl _) e2 S)
  · exact nos hd'
/-- x op= e, x a local -/
theorem sAug {x : Str} {pos' pos : Pos} {op : Operator} {value : Expr} {d : Mo AV} {f : AV → AV → Mo AV} (O : Ok W n cx) (i : Nat) (hx : nm i = x) (hk : cx.env.kindOf x = some .local) (hi : i < NN) (hv : TE W cx value d) (ho : OpR W cx (inplaceOp op) f) :
    TS W cx (.AugAssign (.Name x pos') op value pos) (bnd (dLoc i) fun a => bnd d fun b => bnd (f a b) fun c => bnd (putL i c) fun _ => ret .next) := by
  intro ads ρ σ v ρ' σ' hd s Q E S k
  refine opq fun PP oo => ?_
  refine bnd_elim hd fun a ρ₁ σ₁ e1 hd => ?_
  refine bnd_elim hd fun b ρ₂ σ₂ e2 hd => ?_
  refine bnd_elim hd fun c ρ₃ σ₃ e3 hd => ?_
  refine bnd_elim hd fun u ρ₄ σ₄ e4 hd => ?_
  replace k := KK.of hd k
  refine oo ?_
  refine wpAny_AugAssign_Name (ldLoc O i hx hk _ _ _ _ _ _ e1 s _ _ S fun ads₁ x₁ h₁ tk₁ X₁ r₁ S₁ => ?_)
  refine hv _ _ _ _ _ _ e2 _ _ _ S₁ fun ads₂ y h₂ tk₂ X₂ r₂ S₂ => ?_
  refine ho ads₂ a b _ _ (VR.mono X₂ r₁) r₂ _ _ _ _ _ e3 _ _ _ S₂ fun ads₃ z h₃ tk₃ X₃ r₃ S₃ => ?_
  exact storeL O i hx hk hi ads₃ c z r₃ _ _ _ _ _ e4 _ _ _ S₃ fun ads₄ z h₄ tk₄ X₄ _ S₄ => k ads₄ _ h₄ tk₄ (X₁.trans (X₂.trans (X₃.trans X₄))) rfl S₄

end


section
variable {W : Wo} {cx : Cx} {n : Nat}
/-! loops -/
inductive Src where
  | lst (k i : Nat)
  | tup (k i : Nat)
  | rng (a b : Int) (n : Nat)
  | chs (s : List Nat) (i : Nat)
  | rev (k : Nat) (i : Int)
noncomputable def SrcR (W : Wo) (ads : List Addr) : Src → Obj → Prop
  | .lst k i, o => ∃ a, ads[k]? = some a ∧ o.cls = .type "list_iterator" ∧ o.data = .fields #[.ref a, .int i 0]
  | .tup k i, o => ∃ a, ads[k]? = some a ∧ o.cls = .type "tuple_iterator" ∧ o.data = .fields #[.ref a, .int i 0]
  | .rng a b n, o => o = { cls := .type "range_iterator", dict := none, data := .fields #[rawInt (a * W.q + b), rawInt n, rawInt 1], slots := #[] }
  | .chs s i, o => ∃ t, o.cls = .type (strIterType (strN s)) ∧ o.data = .fields #[.str (strN s) t, .int i 0]
  | .rev k i, o => ∃ a, ads[k]? = some a ∧ o.cls = .type "list_reverseiterator" ∧ o.data = .fields #[.ref a, rawInt i]
theorem SrcR.mono {ads ads' : List Addr} (X : Ext ads ads') {s : Src} {o : Obj} (h : SrcR W ads s o) : SrcR W ads' s o := by
  cases s with
  | lst k i => obtain ⟨a, e, r⟩ := h; exact ⟨a, X.get e, r⟩
  | tup k i => obtain ⟨a, e, r⟩ := h; exact ⟨a, X.get e, r⟩
  | rng a b n => exact h
  | chs s i => exact h
  | rev k i => obtain ⟨a, e, r⟩ := h; exact ⟨a, X.get e, r⟩
noncomputable def nextS (σ : Sto) : Src → Option (Option (AV × Src))
  | .lst k i => match σ.get k with
    | some (.list l) => match l[i]? with
      | some v => some (some (v, .lst k (i + 1)))
      | none => some none
    | _ => none
  | .tup k i => match σ.get k with
    | some (.tup l) => match l[i]? with
      | some v => some (some (v, .tup k (i + 1)))
      | none => some none
    | _ => none
  | .rng a b n => match n with
    | 0 => some none
    | n + 1 => some (some (.lin a b, .rng a (b + 1) n))
  | .chs s i => match s[i]? with
    | some c => some (some (.str [c], .chs s (i + 1)))
    | none => some none
  | .rev k i => match σ.get k with
    | some (.list l) => match i with
      | .ofNat j => match l[j]? with
        | some v => some (some (v, .rev k (i - 1)))
        | none => none
      | .negSucc 0 => some none
      | .negSucc _ => none
    | _ => none
/-- an object beside: an iterator of a loop, a list under way -/
structure Apart (cx : Cx) (ads : List Addr) (a : Addr) : Prop where
  n : a ≠ cx.N
  m : a ∉ ads
  b : cx.base.get? a = none
  p : ∀ q ∈ cx.al, q.1 ≠ a
section
variable {ads : List Addr} {ρ : Loc} {σ : Sto} {h h' : Heap} {it : Addr} {o : Obj}
theorem St.other (S : St W cx ads ρ σ h) (P : Apart cx ads it) (hs : Heap.ExtBut it h h') : St W cx ads ρ σ h' := by
  obtain ⟨m, F, hm⟩ := S.open
  have kp : ∀ a o, a ≠ it → h.get? a = some o → h'.get? a = some o := fun a o hne e => hs a o hne e
  refine ⟨⟨m, ⟨F.ns.extBut hs (Ne.symm P.n), fun b o e => kp b o (fun q => by rw [q, P.b] at e; cases e) (F.keep b o e), F.above⟩, hm⟩, S.cel, S.nd, S.len, fun a ha => ?_, fun k ao e => ?_, fun p hp => ?_⟩
  · obtain ⟨a1, a2, o, e⟩ := S.new a ha
    exact ⟨a1, a2, o, kp _ _ (fun q => P.m (q ▸ ha)) e⟩
  · obtain ⟨a, o, e1, e2, e3⟩ := S.obj k ao e
    exact ⟨a, o, e1, kp _ _ (fun q => P.m (q ▸ List.mem_of_getElem? e1)) e2, e3⟩
  · obtain ⟨p1, p2⟩ := S.pv p hp
    exact ⟨p1.mp fun o e => kp _ _ (P.p p hp) e, p2⟩
theorem St.inn (S : St W cx ads ρ σ h) (P : Apart cx ads it) (e : h.get? it = some o) : St W (cx.wp ((it, o) :: cx.pv)) ads ρ σ h :=
  ⟨S.fr, S.cel, S.nd, S.len, S.new, S.obj, fun p hp => by
    rcases List.mem_cons.mp (show p ∈ (it, o) :: cx.al from hp) with rfl | hp
    · exact ⟨⟨_, e, .inl rfl⟩, P.n, P.m, P.b⟩
    · exact S.pv p hp⟩
theorem St.outP (S : St W (cx.wp ((it, o) :: cx.pv)) ads ρ σ h) (hp : ∀ q ∈ cx.al, q.1 ≠ it) : St W cx ads ρ σ h ∧ Pv h (it, o) ∧ Apart cx ads it := by
  obtain ⟨p1, p2, p3, p4⟩ := S.pv (it, o) (show (it, o) ∈ (it, o) :: cx.al from List.mem_cons_self ..)
  exact ⟨⟨S.fr, S.cel, S.nd, S.len, S.new, S.obj, fun p hp => S.pv p (show p ∈ (it, o) :: cx.al from List.mem_cons_of_mem _ hp)⟩, p1, ⟨p2, p3, p4, hp⟩⟩
theorem St.out (S : St W (cx.wp ((it, o) :: cx.pv)) ads ρ σ h) (hp : ∀ q ∈ cx.al, q.1 ≠ it) (hc : ∃ vs, o.data = .fields vs) : St W cx ads ρ σ h ∧ h.get? it = some o ∧ Apart cx ads it := by
  obtain ⟨a, b, c⟩ := S.outP hp
  exact ⟨a, b.exact hc, c⟩
theorem SrcR.nf {ads : List Addr} {s : Src} {o : Obj} (h : SrcR W ads s o) : ∃ vs, o.data = .fields vs := by
  cases s with
  | lst k i => obtain ⟨a, e, _, r⟩ := h; exact ⟨_, r⟩
  | tup k i => obtain ⟨a, e, _, r⟩ := h; exact ⟨_, r⟩
  | rng a b n => rw [show o = _ from h]; exact ⟨_, rfl⟩
  | chs s i => obtain ⟨t, _, r⟩ := h; exact ⟨_, r⟩
  | rev k i => obtain ⟨a, e, _, r⟩ := h; exact ⟨_, r⟩
/-- a new object stands apart -/
theorem St.apart (S : St W cx ads ρ σ h) {a : Addr} (hn : h.get? a = none) : Apart cx ads a := by
  obtain ⟨m, F, hm⟩ := S.open
  obtain ⟨oN, es, ep, hN, _⟩ := F.ns
  refine ⟨fun q => ?_, fun q => ?_, ?_, fun p hp q => ?_⟩
  · subst q; cases (hN).symm.trans hn
  · obtain ⟨_, _, o, e⟩ := S.new a q
    cases (e).symm.trans hn
  · cases q : cx.base.get? a with
    | none => rfl
    | some o' => cases (F.keep a o' q).symm.trans hn
  · obtain ⟨o', e', _⟩ := (S.pv p hp).1
    rw [q, hn] at e'; cases e'
theorem fields_list {h : Heap} {it a : Addr} {o : Obj} {i : Nat} (e : h.get? it = some o) (hc : o.cls = .type "list_iterator") (hd : o.data = .fields #[.ref a, .int i 0]) : h.IsListIter it a i := ⟨o, e, hc, hd⟩
inductive NextS (W : Wo) (cx : Cx) (it : Addr) (ρ : Loc) (σ : Sto) (ads : List Addr) (a : AV) (src : Src) (v : Option Value) (h' : Heap) : Prop
  | mk (x : Value) (o : Obj) (e : v = some x) (r : VR W.q ads a x) (S : St W cx ads ρ σ h') (ho : h'.get? it = some o) (hs : SrcR W ads src o) : NextS W cx it ρ σ ads a src v h'
noncomputable def NextR (W : Wo) (cx : Cx) (it : Addr) (ρ : Loc) (σ : Sto) (ads : List Addr) (r : Option (AV × Src)) (v : Option Value) (h' : Heap) : Prop := match r with
  | none => v = none ∧ St W cx ads ρ σ h'
  | some (a, src) => NextS W cx it ρ σ ads a src v h'
theorem next_T (O : Ok W n cx) {s : Shared} {Q : Option Value → Shared → Prop} {E : Value → Shared → Prop} {src : Src} {r : Option (AV × Src)} (S : St W cx ads ρ σ s.heap) (P : Apart cx ads it) (ho : s.heap.get? it = some o) (hs : SrcR W ads src o) (hr : nextS σ src = some r)
    (k : ∀ v h' tk, NextR W cx it ρ σ ads r v h' → Q v { s with heap := h', toks := tk }) : wpAny (model W.prog W.w) cx.A (pyNext (.ref it)) Q E s := by
  cases src with
  | lst l i =>
    obtain ⟨a, ea, hc, hd⟩ := hs
    dsimp only [nextS] at hr
    split at hr
    · rename_i items el
      obtain ⟨a', o', e1, e2, vs, m, rfl, rv⟩ := S.obj l _ el
      cases Option.some.inj ((ea).symm.trans e1)
      have hl : s.heap.IsList a vs.toArray := ⟨_, e2, rfl, _, rfl⟩
      split at hr
      · rename_i v ev
        cases hr
        obtain ⟨x, ex, rx⟩ := rv.get ev
        refine wpAny_pyNext_list_item (fields_list ho hc hd) hl (x := x) (by simpa using ex) fun h' hi' hs' => k _ h' s.toks ?_
        obtain ⟨o₂, b1, b2, b3⟩ := hi'
        exact ⟨x, o₂, rfl, rx, S.other P hs'.extBut, b1, a, ea, b2, b3⟩
      · rename_i ev
        cases hr
        refine wpAny_pyNext_list_end O.hh (fields_list ho hc hd) hl ?_ fun h' hs' => k _ h' s.toks ⟨rfl, S.other P hs'⟩
        have := VRs.length rv
        simp only [List.getElem?_eq_none_iff] at ev ⊢
        simp; lia
    · exact nos hr
  | tup l i =>
    obtain ⟨a, ea, hc, hd⟩ := hs
    dsimp only [nextS] at hr
    split at hr
    · rename_i items el
      obtain ⟨a', o', e1, e2, vs, m, rfl, rv⟩ := S.obj l _ el
      cases Option.some.inj ((ea).symm.trans e1)
      have hl : s.heap.IsTuple a vs.toArray := ⟨_, e2, rfl, _, rfl⟩
      split at hr
      · rename_i v ev
        cases hr
        obtain ⟨x, ex, rx⟩ := rv.get ev
        refine wpAny_pyNext_tuple_item ⟨o, ho, hc, hd⟩ hl (x := x) (by simpa using ex) fun h' hi' hs' => k _ h' s.toks ?_
        obtain ⟨o₂, b1, b2, b3⟩ := hi'
        exact ⟨x, o₂, rfl, rx, S.other P hs'.extBut, b1, a, ea, b2, b3⟩
      · rename_i ev
        cases hr
        refine wpAny_pyNext_tuple_end O.hh ⟨o, ho, hc, hd⟩ hl ?_ fun h' hs' => k _ h' s.toks ⟨rfl, S.other P hs'⟩
        have := VRs.length rv
        simp only [List.getElem?_eq_none_iff] at ev ⊢
        simp; lia
    · exact nos hr
  | rng a b m =>
    have ho' : IsRangeIter s.heap it (a * W.q + b) m 1 := ho.trans (congrArg some hs)
    cases m with
    | zero =>
      cases Option.some.inj hr
      exact wpAny_pyNext_range_end O.hh ho' (by decide) fun h' hs' => k _ h' s.toks ⟨rfl, S.other P hs'⟩
    | succ m =>
      cases Option.some.inj hr
      refine wpAny_pyNext_range_item ho' (by lia) fun h' hi' hs' => k _ h' _ ⟨_, _, rfl, ⟨_, rfl⟩, S.other P hs'.extBut, hi', ?_⟩
      show Obj.mk _ _ _ _ = Obj.mk _ _ _ _
      rw [show a * W.q + (b + 1) = a * W.q + b + 1 by lia, show ((m + 1 : Nat) : Int) - 1 = (m : Int) by lia]
  | chs x i =>
    obtain ⟨t, hc, hd⟩ := hs
    dsimp only [nextS] at hr
    dsimp only [strIterType] at hc
    split at hr
    · rename_i c ec
      cases hr
      have ec' : (strN x).cps[i]? = some c := by simpa [strN] using ec
      split at hc
      · rename_i ha
        refine wpAny_pyNext_ascii_item (x := strN x) (t := t) ⟨o, ho, hc, hd⟩ ec' fun h' hi' hs' => k _ h' _ ?_
        obtain ⟨o₂, b1, b2, b3⟩ := hi'
        exact ⟨_, o₂, rfl, ⟨_, rfl⟩, S.other P hs'.extBut, b1, t, by unfold strIterType; rw [if_pos ha]; exact b2, b3⟩
      · rename_i ha
        refine wpAny_pyNext_wide_item (x := strN x) (t := t) ⟨o, ho, hc, hd⟩ ec' fun h' hi' hs' => k _ h' _ ?_
        obtain ⟨o₂, b1, b2, b3⟩ := hi'
        exact ⟨_, o₂, rfl, ⟨_, rfl⟩, S.other P hs'.extBut, b1, t, by unfold strIterType; rw [if_neg ha]; exact b2, b3⟩
    · rename_i ec
      cases hr
      have ec' : (strN x).cps[i]? = none := by simpa [strN] using ec
      split at hc
      · exact wpAny_pyNext_ascii_end O.hh (x := strN x) (t := t) ⟨o, ho, hc, hd⟩ ec' fun h' hs' => k _ h' _ ⟨rfl, S.other P hs'⟩
      · exact wpAny_pyNext_wide_end O.hh (x := strN x) (t := t) ⟨o, ho, hc, hd⟩ ec' fun h' hs' => k _ h' _ ⟨rfl, S.other P hs'⟩
  | rev l i =>
    obtain ⟨a, ea, hc, hd⟩ := hs
    dsimp only [nextS] at hr
    split at hr
    · rename_i items el
      obtain ⟨a', o', e1, e2, vs, m, rfl, rv⟩ := S.obj l _ el
      cases Option.some.inj ((ea).symm.trans e1)
      have hl : s.heap.IsList a vs.toArray := ⟨_, e2, rfl, _, rfl⟩
      split at hr
      · rename_i j
        split at hr
        · rename_i v ev
          cases Option.some.inj hr
          obtain ⟨x, ex, rx⟩ := rv.get ev
          refine wpAny_pyNext_rev_item (i := j) ⟨o, ho, hc, hd⟩ hl (x := x) (by simpa using ex) fun h' hi' hs' => k _ h' s.toks ?_
          obtain ⟨o₂, b1, b2, b3⟩ := hi'
          exact ⟨x, o₂, rfl, rx, S.other P hs'.extBut, b1, a, ea, b2, b3⟩
        · exact nos hr
      · cases hr
        exact wpAny_pyNext_rev_end O.hh ⟨o, ho, hc, hd⟩ fun h' hs' => k _ h' s.toks ⟨rfl, S.other P hs'⟩
      · exact nos hr
    · exact nos hr
end
/-- what stands behind `in`: evaluated, its iterator made -/
noncomputable def TI (W : Wo) (cx : Cx) (iter : Expr) (d : Mo Src) : Prop :=
  ∀ ads ρ σ src ρ' σ', d ρ σ = some (src, ρ', σ') → ∀ (s : Shared) (Q : Value → Shared → Prop) (E : Value → Shared → Prop), St W cx ads ρ σ s.heap →
    (∀ ads' it o h' tk, Ext ads ads' → SrcR W ads' src o → h'.get? it = some o → Apart cx ads' it → St W cx ads' ρ' σ' h' → Q (.ref it) { s with heap := h', toks := tk }) →
    wpAny (model W.prog W.w) cx.A (eval iter cx.env) (fun x s₁ => wpAny (model W.prog W.w) cx.A (pyIter x) Q E s₁) E s
noncomputable def dSrc (v : AV) : Mo Src := fun ρ σ => match v with
  | .ref k => match σ.get k with
    | some (.list _) => some (.lst k 0, ρ, σ)
    | some (.tup _) => some (.tup k 0, ρ, σ)
    | some (.rng a b n) => match small a, small b, Nat.ble n 1000000 with
      | true, true, true => some (.rng a b n, ρ, σ)
      | _, _, _ => none
    | _ => none
  | .str s => some (.chs s 0, ρ, σ)
  | _ => none
theorem lin_small {q a b : Int} (hq : 0 ≤ q ∧ q ≤ 1048576) (ha : small a = true) (hb : small b = true) : -(2 ^ 62) ≤ a * q + b ∧ a * q + b < 2 ^ 62 - 1000001 := by
  have h1 := small_is ha
  have h2 := small_is hb
  have h3 : a * q ≤ 4294967296 * 1048576 := Int.mul_le_mul (by lia) hq.2 hq.1 (by decide)
  have h4 : -(4294967296 * 1048576) ≤ a * q := by
    have : (-a) * q ≤ 4294967296 * 1048576 := Int.mul_le_mul (by lia) hq.2 hq.1 (by decide)
    rw [Int.neg_mul] at this
    lia
  lia
theorem sIter (O : Ok W n cx) {iter : Expr} {d : Mo AV} (h : TE W cx iter d) : TI W cx iter (bnd d dSrc) := by
  intro ads ρ σ src ρ' σ' hd s Q E S k
  refine bnd_elim hd fun v ρ₁ σ₁ e1 hd => ?_
  refine h _ _ _ _ _ _ e1 s _ _ S fun ads₁ x h₁ tk₁ X₁ r₁ S₁ => ?_
  dsimp only [dSrc] at hd
  split at hd
  · split at hd
    · rename_i l e
      cases hd
      obtain ⟨a, o, rfl, ea, ho, vs, m, rfl, rv⟩ := S₁.at r₁ e
      refine wpAny_pyIter_list ⟨_, ho, rfl, _, rfl⟩ ?_
      exact k ads₁ _ _ _ tk₁ X₁ ⟨a, ea, rfl, rfl⟩ (Heap.get?_push_size _ rfl) (S₁.apart (heap_fresh _)) (S₁.grow fun b o e => Heap.get?_push_of_some _ e)
    · rename_i l e
      cases hd
      obtain ⟨a, o, rfl, ea, ho, vs, m, rfl, rv⟩ := S₁.at r₁ e
      refine wpAny_pyIter_tuple ⟨_, ho, rfl, _, rfl⟩ ?_
      exact k ads₁ _ _ _ tk₁ X₁ ⟨a, ea, rfl, rfl⟩ (Heap.get?_push_size _ rfl) (S₁.apart (heap_fresh _)) (S₁.grow fun b o e => Heap.get?_push_of_some _ e)
    · rename_i a b m e
      split at hd
      · rename_i sa sb sm
        cases hd
        obtain ⟨r, o, rfl, ea, ho, t, u, w, e0, he0, rfl⟩ := S₁.at r₁ e
        have hb := lin_small O.hq sa sb
        have hm := Nat.le_of_ble_eq_true sm
        have hsz : Builtin.Range.rangeSize (a * W.q + b) e0 1 = m := by
          rw [rangeSize_one]; split <;> lia
        refine wpAny_pyIter_range (a := a * W.q + b) (b := e0) (c := 1) (t := t) (u := u) (v := w) ho (small_one (by lia) (by lia) (by lia) (by lia)) ?_
        rw [hsz]
        exact k ads₁ _ _ _ tk₁ X₁ rfl (Heap.get?_push_size _ rfl) (S₁.apart (heap_fresh _)) (S₁.grow fun b o e => Heap.get?_push_of_some _ e)
      · exact nos hd
    · exact nos hd
  · cases hd
    obtain ⟨t, rfl⟩ := r₁
    refine wpAny_pyIter_strU ?_
    exact k ads₁ _ _ _ tk₁ X₁ ⟨t, rfl, rfl⟩ (Heap.get?_push_size _ rfl) (S₁.apart (heap_fresh _)) (S₁.grow fun b o e => Heap.get?_push_of_some _ e)
  · exact nos hd
theorem letOwned_T {ads : List Addr} {src : Src} {o : Obj} {it : Addr} {v : Value} {target : Expr} {A : Around} {s : Shared} {Q : Unit → Shared → Prop} {E : Value → Shared → Prop} (hs : SrcR W ads src o) (ho : s.heap.get? it = some o) (k : Q () s) :
    wpAny (model W.prog W.w) A (letOwnedTupleGo target (.ref it) v) Q E s := by
  have key : ∀ (a : Addr), wpAny (model W.prog W.w) A (load it >>= fun o => match o.cls, o.data with
      | Value.type n, Data.fields vs => if (["enumerate", "zip", "dict_itemiterator", "dict_reverseitemiterator", "odict_iterator", "itertools.zip_longest", "itertools.pairwise"].contains n && vs[0]? == some (rawInt (a : Int))) = true then (do rule "for.unpacks-the-owned-tuple"; updateField it 0 Value.none) else pure ()
      | _, _ => pure ()) Q E s := by
    intro a
    refine wpAny_bind (wpAny_load ho ?_)
    have main : ∀ (n : String) (vs : Array Value), o.cls = .type n → o.data = .fields vs → (["enumerate", "zip", "dict_itemiterator", "dict_reverseitemiterator", "odict_iterator", "itertools.zip_longest", "itertools.pairwise"] : List String).contains n = false →
        wpAny (model W.prog W.w) A (match o.cls, o.data with
      | Value.type n, Data.fields vs => if (["enumerate", "zip", "dict_itemiterator", "dict_reverseitemiterator", "odict_iterator", "itertools.zip_longest", "itertools.pairwise"].contains n && vs[0]? == some (rawInt (a : Int))) = true then (do rule "for.unpacks-the-owned-tuple"; updateField it 0 Value.none) else pure ()
      | _, _ => pure ()) Q E s := by
      intro n vs e1 e2 e3
      rw [e1, e2]
      simp only [e3, Bool.false_and, Bool.false_eq_true, if_false]
      exact wpAny_pure k
    cases src with
    | lst l i => obtain ⟨b, _, hc, hd⟩ := hs; exact main _ _ hc hd (by decide)
    | tup l i => obtain ⟨b, _, hc, hd⟩ := hs; exact main _ _ hc hd (by decide)
    | rng a b n => exact main _ _ (congrArg _ hs) (congrArg _ hs) (by decide)
    | chs x i =>
      obtain ⟨t, hc, hd⟩ := hs
      refine main _ _ hc hd ?_
      unfold strIterType
      split <;> decide
    | rev l i => obtain ⟨b, _, hc, hd⟩ := hs; exact main _ _ hc hd (by decide)
  cases target with
  | Tuple ts kk pos => cases v with
    | ref a => exact key a
    | _ => exact wpAny_pure k
  | List ts pos => cases v with
    | ref a => exact key a
    | _ => exact wpAny_pure k
  | _ => exact wpAny_pure k
end
/-- the loop's turns -/
noncomputable def forM (tgt : AV → Mo Unit) (body : Mo Fl) : Nat → Src → Mo Fl
  | 0, _ => bad
  | f + 1, src => fun ρ σ => match nextS σ src with
    | some (some (v, src')) => bnd (tgt v) (fun _ => bnd body fun fl => match fl with
      | .next => forM tgt body f src'
      | .cont => forM tgt body f src'
      | .brk => ret .next
      | .ret v => ret (.ret v)) ρ σ
    | some none => some (.next, ρ, σ)
    | none => none
section
variable {W : Wo} {cx : Cx} {n : Nat}
theorem Ok.wp (O : Ok W n cx) (pv : List (Addr × Obj)) : Ok W n (cx.wp pv) := ⟨O.hh, O.dp, O.un, O.kin, O.top, O.loc, O.fk, O.gl, O.bi, O.hq, O.fr⟩
inductive LI {α : Type} (W : Wo) (cx : Cx) (ads : List Addr) (it : Addr) (s : Shared) (d : Nat → Src → Mo α) (r : α × Loc × Sto) (m : Nat) (s' : Shared) : Prop
  | mk (ads₂ : List Addr) (ρ₂ : Loc) (σ₂ : Sto) (src₂ : Src) (o₂ : Obj) (h₂ : Heap) (tk₂ : Nat) (e : s' = { s with heap := h₂, toks := tk₂ }) (X : Ext ads ads₂) (r₂ : SrcR W ads₂ src₂ o₂) (ho : h₂.get? it = some o₂) (P : Apart cx ads₂ it) (S : St W cx ads₂ ρ₂ σ₂ h₂) (hd : d m src₂ ρ₂ σ₂ = some r) : LI W cx ads it s d r m s'
inductive WI {α : Type} (W : Wo) (cx : Cx) (ads : List Addr) (s : Shared) (d : Nat → Mo α) (r : α × Loc × Sto) (m : Nat) (s' : Shared) : Prop
  | mk (ads₂ : List Addr) (ρ₂ : Loc) (σ₂ : Sto) (h₂ : Heap) (tk₂ : Nat) (e : s' = { s with heap := h₂, toks := tk₂ }) (X : Ext ads ads₂) (S : St W cx ads₂ ρ₂ σ₂ h₂) (hd : d m ρ₂ σ₂ = some r) : WI W cx ads s d r m s'
theorem sFor (O : Ok W n cx) {target iter : Expr} {body : List Stmt} {pos : Pos} {di : Mo Src} {g : AV → Mo Unit} {db : Mo Fl} (fuel : Nat) (hi : TI W cx iter di) (ht : ∀ pv, TG W (cx.wp pv) target g) (hb : ∀ pv, TSs W (cx.wp pv) body db)
    (hs : ∀ env x, foldedSetIterable iter env x = pure x := by intro _ _; rfl) : TS W cx (.For target iter body [] pos) (bnd di (forM g db fuel)) := by
  intro ads ρ σ v ρ' σ' hd s Q E S k
  refine bnd_elim hd fun src ρ₁ σ₁ e1 hd => ?_
  refine wpAny_For (hi _ _ _ _ _ _ e1 s _ _ S fun ads₁ it o h₁ tk₁ X₁ r₁ ho₁ P₁ S₁ => ?_) (hs _)
  refine codeAny_forLoop_any (LI W cx ads it s (forM g db) (v, ρ', σ')) ?_ fuel
    ⟨ads₁, ρ₁, σ₁, src, o, h₁, tk₁, rfl, X₁, r₁, ho₁, P₁, S₁, hd⟩
  rintro m s' ⟨ads₂, ρ₂, σ₂, src₂, o₂, h₂, tk₂, rfl, X₂, r₂, ho₂, P₂, S₂, hd₂⟩
  cases m with
  | zero => cases hd₂
  | succ m =>
    dsimp only [forM] at hd₂
    split at hd₂
    · rename_i a src₃ en
      refine next_T O S₂ P₂ ho₂ r₂ en fun w h₃ tk₃ N₃ => ?_
      obtain ⟨x, o₃, rfl, rx, S₃, ho₃, r₃⟩ := N₃
      refine letOwned_T r₃ ho₃ ?_
      refine bnd_elim hd₂ fun _ ρ₄ σ₄ e4 hd₄ => ?_
      refine bnd_elim hd₄ fun fl ρ₅ σ₅ e5 hd₅ => ?_
      have SI := S₃.inn P₂ ho₃
      refine ht ((it, o₃) :: cx.pv) ads₂ a x rx _ _ _ _ _ e4 { s with heap := h₃, toks := tk₃ } _ _ SI fun ads₄ _ h₄ tk₄ X₄ _ S₄ => ?_
      refine hb ((it, o₃) :: cx.pv) ads₄ _ _ _ _ _ e5 { s with heap := h₄, toks := tk₄ } _ _ S₄ fun ads₅ f h₅ tk₅ X₅ r₅ S₅ => ?_
      obtain ⟨SO, ho₅, P₅⟩ := S₅.out P₂.p r₃.nf
      have XX : Ext ads ads₅ := X₂.trans (X₄.trans X₅)
      cases fl with
      | next =>
        subst r₅
        exact ⟨m, Nat.lt_succ_self _, ads₅, ρ₅, σ₅, src₃, o₃, h₅, tk₅, rfl, XX, r₃.mono (X₄.trans X₅), ho₅, P₅, SO, hd₅⟩
      | cont =>
        subst r₅
        exact ⟨m, Nat.lt_succ_self _, ads₅, ρ₅, σ₅, src₃, o₃, h₅, tk₅, rfl, XX, r₃.mono (X₄.trans X₅), ho₅, P₅, SO, hd₅⟩
      | brk =>
        subst r₅
        replace k := KK.of hd₅ k
        exact k ads₅ _ h₅ tk₅ XX rfl SO
      | ret u =>
        obtain ⟨y, rfl, ry⟩ := r₅
        replace k := KK.of hd₅ k
        exact k ads₅ _ h₅ tk₅ XX ⟨y, rfl, ry⟩ SO
    · rename_i en
      replace k := KK.of hd₂ k
      refine next_T O S₂ P₂ ho₂ r₂ en fun w h₃ tk₃ N₃ => ?_
      obtain ⟨rfl, S₃⟩ := N₃
      exact wpAny_execs_nil (k ads₂ _ h₃ tk₃ X₂ rfl S₃)
    · exact nos hd₂
/-- while -/
noncomputable def whileM (t : Mo Bool) (body : Mo Fl) : Nat → Mo Fl
  | 0 => bad
  | f + 1 => bnd t fun b => match b with
    | true => bnd body fun fl => match fl with
      | .next => whileM t body f
      | .cont => whileM t body f
      | .brk => ret .next
      | .ret v => ret (.ret v)
    | false => ret .next
theorem sWhile {test : Expr} {body : List Stmt} {pos : Pos} {dt : Mo Bool} {db : Mo Fl} (fuel : Nat) (ht : TB W cx test dt) (hb : TSs W cx body db) : TS W cx (.While test body [] pos) (whileM dt db fuel) := by
  intro ads ρ σ v ρ' σ' hd s Q E S k
  refine wpAny_While (codeAny_whileLoop (WI W cx ads s (whileM dt db) (v, ρ', σ')) ?_ fuel
    ⟨ads, ρ, σ, s.heap, s.toks, rfl, .refl _, S, hd⟩)
  rintro m s' ⟨ads₂, ρ₂, σ₂, h₂, tk₂, rfl, X₂, S₂, hd₂⟩
  cases m with
  | zero => cases hd₂
  | succ m =>
    dsimp only [whileM] at hd₂
    refine bnd_elim hd₂ fun b ρ₄ σ₄ e4 hd₄ => ?_
    refine ht ads₂ _ _ _ _ _ e4 { s with heap := h₂, toks := tk₂ } _ _ S₂ fun ads₄ b' h₄ tk₄ X₄ r₄ S₄ => ?_
    subst r₄
    cases b with
    | false =>
      replace k := KK.of hd₄ k
      exact wpAny_execs_nil (k ads₄ _ h₄ tk₄ (X₂.trans X₄) rfl S₄)
    | true =>
      refine bnd_elim hd₄ fun fl ρ₅ σ₅ e5 hd₅ => ?_
      refine hb ads₄ _ _ _ _ _ e5 { s with heap := h₄, toks := tk₄ } _ _ S₄ fun ads₅ f h₅ tk₅ X₅ r₅ S₅ => ?_
      have XX : Ext ads ads₅ := X₂.trans (X₄.trans X₅)
      cases fl with
      | next => subst r₅; exact ⟨m, Nat.lt_succ_self _, ads₅, ρ₅, σ₅, h₅, tk₅, rfl, XX, S₅, hd₅⟩
      | cont => subst r₅; exact ⟨m, Nat.lt_succ_self _, ads₅, ρ₅, σ₅, h₅, tk₅, rfl, XX, S₅, hd₅⟩
      | brk => cases r₅; cases hd₅; exact k ads₅ _ h₅ tk₅ XX rfl S₅
      | ret u => obtain ⟨y, rfl, ry⟩ := r₅; cases hd₅; exact k ads₅ _ h₅ tk₅ XX ⟨y, rfl, ry⟩ S₅
end


section
variable {W : Wo} {cx : Cx} {n : Nat}
/-! tests -/
theorem sNot {x : Expr} {pos : Pos} {d : Mo Bool} (h : TB W cx x d) : TB W cx (.UnaryOp .Not x pos) (bnd d fun b => ret (!b)) := by
  intro ads ρ σ v ρ' σ' hd s Q E S k
  refine bnd_elim hd fun a ρ₁ σ₁ e1 hd => ?_
  replace k := KK.of hd k
  refine wpAny_isTrue_Not (h _ _ _ _ _ _ e1 s _ _ S fun ads₁ x h₁ tk₁ X₁ r₁ S₁ => ?_)
  subst r₁
  exact k ads₁ _ h₁ tk₁ X₁ rfl S₁
theorem sOr {x y : Expr} {pos : Pos} {dx dy : Mo Bool} (hx : TB W cx x dx) (hy : TB W cx y dy) : TB W cx (.BoolOp .Or [x, y] pos) (ifM dx (ret true) dy) := by
  intro ads ρ σ v ρ' σ' hd s Q E S k
  refine bnd_elim hd fun a ρ₁ σ₁ e1 hd => ?_
  refine wpAny_isTrue_BoolOp (wpAny_allTrue_Or_cons (hx _ _ _ _ _ _ e1 s _ _ S fun ads₁ x h₁ tk₁ X₁ r₁ S₁ => ?_))
  subst r₁
  cases a with
  | true => cases hd; exact k ads₁ _ h₁ tk₁ X₁ rfl S₁
  | false =>
    refine wpAny_allTrue_Or_cons (hy _ _ _ _ _ _ hd _ _ _ S₁ fun ads₂ x h₂ tk₂ X₂ r₂ S₂ => ?_)
    subst r₂
    cases v with
    | true => exact k ads₂ _ h₂ tk₂ (X₁.trans X₂) rfl S₂
    | false => exact wpAny_allTrue_Or_nil (k ads₂ _ h₂ tk₂ (X₁.trans X₂) rfl S₂)
theorem sAnd {x y : Expr} {pos : Pos} {dx dy : Mo Bool} (hx : TB W cx x dx) (hy : TB W cx y dy) : TB W cx (.BoolOp .And [x, y] pos) (ifM dx dy (ret false)) := by
  intro ads ρ σ v ρ' σ' hd s Q E S k
  refine bnd_elim hd fun a ρ₁ σ₁ e1 hd => ?_
  refine wpAny_isTrue_BoolOp (wpAny_allTrue_And_cons (hx _ _ _ _ _ _ e1 s _ _ S fun ads₁ x h₁ tk₁ X₁ r₁ S₁ => ?_))
  subst r₁
  cases a with
  | false => cases hd; exact k ads₁ _ h₁ tk₁ X₁ rfl S₁
  | true =>
    refine wpAny_allTrue_And_cons (hy _ _ _ _ _ _ hd _ _ _ S₁ fun ads₂ x h₂ tk₂ X₂ r₂ S₂ => ?_)
    subst r₂
    cases v with
    | false => exact k ads₂ _ h₂ tk₂ (X₁.trans X₂) rfl S₂
    | true => exact wpAny_allTrue_And_nil (k ads₂ _ h₂ tk₂ (X₁.trans X₂) rfl S₂)
/-- the truth of a value -/
noncomputable def fTru (a : AV) : Mo Bool := fun ρ σ => match a with
  | .none => some (false, ρ, σ)
  | .bool b => some (b, ρ, σ)
  | .lin a b => match isZ a with
    | true => some (!isZ b, ρ, σ)
    | false => none
  | .str l => match Nat.ble l.length 1000000 with
    | true => some (!Nat.beq l.length 0, ρ, σ)
    | false => none
  | .ref k => match σ.get k with
    | some (.list l) => match Nat.ble l.length 1000000 with
      | true => some (!Nat.beq l.length 0, ρ, σ)
      | false => none
    | _ => none
  | _ => none
theorem isZ_eq (x : Int) : isZ x = (x == 0) := by
  cases h : isZ x with
  | true => rw [isZ_is h]; rfl
  | false => exact (beq_eq_false_iff_ne.mpr (isZ_not h)).symm
theorem oTru {ads : List Addr} {a : AV} {x : Value} (hv : VR W.q ads a x) : TAt W cx BR ads (truthy x) (fTru a) := by
  intro ρ σ v ρ' σ' hd s Q E S k
  unfold fTru at hd
  split at hd
  · cases hd; cases hv; exact truthy_none (k ads _ s.heap s.toks (.refl _) rfl S)
  · cases hd; cases hv; exact wpAny_truthy_bool (k ads _ s.heap s.toks (.refl _) rfl S)
  · rename_i a b
    obtain ⟨t, hqq⟩ := hv; subst hqq
    refine gB hd fun za hd => ?_
    replace k := KK.of hd k
    cases isZ_is za
    refine PyProof.Rows.truthy_int ?_
    rw [Int.zero_mul, Int.zero_add]
    exact k ads _ s.heap s.toks (.refl _) (by show (!isZ b) = _; rw [isZ_eq]; rfl) S
  · rename_i l
    obtain ⟨t, hqq⟩ := hv; subst hqq
    refine gB hd fun hl hd => ?_
    replace k := KK.of hd k
    have := Nat.le_of_ble_eq_true hl
    refine PySem.P.truthy_str (by rw [strN_len]; lia) ?_
    rw [strN_len]
    refine k ads _ s.heap _ (.refl _) ?_ S
    show (!Nat.beq l.length 0) = ((l.length : Int) != 0)
    cases l with
    | nil => rfl
    | cons _ _ => simp [Nat.beq]; lia
  · split at hd
    · rename_i l e
      refine gB hd fun hl hd => ?_
      replace k := KK.of hd k
      obtain ⟨a, o, rfl, ea, ho, vs, m, rfl, rv⟩ := S.at hv e
      have := Nat.le_of_ble_eq_true hl
      have hlen := VRs.length rv
      refine wpAny_truthy_list ⟨_, ho, rfl, _, rfl⟩ (by simp; lia) ?_
      refine k ads _ s.heap _ (.refl _) ?_ S
      show (!Nat.beq l.length 0) = _
      cases l with
      | nil => cases vs with
        | nil => rfl
        | cons _ _ => cases hlen
      | cons _ _ => cases vs with
        | nil => cases hlen
        | cons _ _ => simp [Nat.beq]
    · exact nos hd
  · exact nos hd
/-- the test of a plain value -/
theorem sTru {e : Expr} {d : Mo AV} (h : TE W cx e d) (he : ∀ env, PySem.isTrue e env (eval e env) = (do let v ← eval e env; standAt e.pos; holding [v] (truthy v)) := by intro _; rfl) : TB W cx e (bnd d fTru) := by
  intro ads ρ σ v ρ' σ' hd s Q E S k
  refine bnd_elim hd fun a ρ₁ σ₁ e1 hd => ?_
  refine wpAny_isTrue_value (h _ _ _ _ _ _ e1 s _ _ S fun ads₁ x h₁ tk₁ X₁ r₁ S₁ => ?_) (he _)
  exact oTru r₁ _ _ _ _ _ hd _ _ _ S₁ fun ads₃ z h₃ tk₃ X₃ r₃ S₃ => k ads₃ z h₃ tk₃ (X₁.trans X₃) r₃ S₃
/-- `x and y` as a value -/
theorem sAndE {x y : Expr} {pos : Pos} {dx dy : Mo AV} (hx : TE W cx x dx) (hy : TE W cx y dy) : TE W cx (.BoolOp .And [x, y] pos) (bnd dx fun a => bnd (fTru a) fun b => match b with | true => dy | false => ret a) := by
  intro ads ρ σ v ρ' σ' hd s Q E S k
  refine bnd_elim hd fun a ρ₁ σ₁ e1 hd => ?_
  refine bnd_elim hd fun b ρ₂ σ₂ e2 hd => ?_
  simp only [arm_eval_BoolOp]
  show wpAny _ _ (eval x cx.env >>= fun v => _) Q E s
  refine wpAny_bind (hx _ _ _ _ _ _ e1 s _ _ S fun ads₁ u h₁ tk₁ X₁ r₁ S₁ => wpAny_bind (wpAny_standAt (wpAny_bind (wpAny_holding ?_))))
  refine oTru r₁ _ _ _ _ _ e2 _ _ _ S₁ fun ads₂ c h₂ tk₂ X₂ r₂ S₂ => ?_
  subst r₂
  cases b with
  | false => cases hd; exact wpAny_pure (k ads₂ u h₂ tk₂ (X₁.trans X₂) (r₁.mono X₂) S₂)
  | true => exact hy _ _ _ _ _ _ hd _ _ _ S₂ fun ads₃ z h₃ tk₃ X₃ r₃ S₃ => k ads₃ z h₃ tk₃ (X₁.trans (X₂.trans X₃)) r₃ S₃
/-! displays -/
noncomputable def fNew (mk : List AV → AO) (vs : List AV) : Mo AV := fun ρ σ => match Nat.ble vs.length 1000000 with
  | true => match σ.new (mk vs) with
    | some (k, σ') => some (.ref k, ρ, σ')
    | none => none
  | false => none
theorem sTup {elts : List Expr} {kd : Nat} {pos : Pos} {d : Mo (List AV)} (h : TA W cx pos elts d) : TE W cx (.Tuple elts kd pos) (bnd d (fNew .tup)) := by
  intro ads ρ σ v ρ' σ' hd s Q E S k
  refine bnd_elim hd fun vs ρ₁ σ₁ e1 hd => ?_
  unfold fNew at hd
  refine gB hd fun hs hd => ?_
  refine gN hd fun j σ₂ en hd => ?_
  replace k := KK.of hd k
  refine wpAny_Tuple_spliced (h _ _ _ _ _ _ e1 s _ _ S fun ads₁ xs h₁ tk₁ X₁ r₁ S₁ => ⟨?_, ?_⟩)
  · have := VRs.length r₁; have := small_size hs; lia
  · obtain ⟨S', X, he⟩ := S₁.alloc (fun b o e => Heap.get?_push_of_some _ e) (heap_fresh h₁) (Heap.get?_push_size _ rfl) (ao := .tup vs) ⟨xs, 0, rfl, r₁⟩ en
    exact k _ _ _ tk₁ (X₁.trans X) ⟨_, he, rfl⟩ S'
theorem sLst {elts : List Expr} {pos : Pos} {d : Mo (List AV)} (h : TA W cx pos elts d) : TE W cx (.List elts pos) (bnd d (fNew .list)) := by
  intro ads ρ σ v ρ' σ' hd s Q E S k
  refine bnd_elim hd fun vs ρ₁ σ₁ e1 hd => ?_
  unfold fNew at hd
  refine gB hd fun hs hd => ?_
  refine gN hd fun j σ₂ en hd => ?_
  replace k := KK.of hd k
  refine wpAny_List_spliced (h _ _ _ _ _ _ e1 s _ _ S fun ads₁ xs h₁ tk₁ X₁ r₁ S₁ => ⟨?_, ?_⟩)
  · have := VRs.length r₁; have := small_size hs; lia
  · obtain ⟨S', X, he⟩ := S₁.alloc (fun b o e => Heap.get?_push_of_some _ e) (heap_fresh h₁) (Heap.get?_push_size _ rfl) (ao := .list vs) ⟨xs, 0, rfl, r₁⟩ en
    exact k _ _ _ tk₁ (X₁.trans X) ⟨_, he, rfl⟩ S'
/-! subscripts -/
noncomputable def ixN (b : Int) : Option Nat := match b with | .ofNat n => (match Nat.ble n 1000000 with | true => some n | false => none) | .negSucc _ => none
theorem ixN_is {b : Int} {i : Nat} (h : ixN b = some i) : b = (i : Int) ∧ i ≤ 1000000 := by
  unfold ixN at h
  split at h
  · split at h
    · rename_i hb
      cases Option.some.inj h
      exact ⟨rfl, Nat.le_of_ble_eq_true hb⟩
    · exact nos h
  · exact nos h
noncomputable def fGet (a i : AV) : Mo AV := fun ρ σ => match i with
  | .lin z b => match isZ z, ixN b with
    | true, some j => match a with
      | .str l => match l[j]? with
        | some c => some (.str [c], ρ, σ)
        | none => none
      | .ref k => match σ.get k with
        | some (.list l) => match l[j]? with
          | some v => some (v, ρ, σ)
          | none => none
        | some (.tup l) => match l[j]? with
          | some v => some (v, ρ, σ)
          | none => none
        | _ => none
      | _ => none
    | _, _ => none
  | _ => none
theorem seqIndex_nat {j m : Nat} (h : j < m) : seqIndex? (j : Int) m = some j := by
  exact seqIndex_of (k := (j : Int)) (by lia) (by lia)
theorem sub_at {value slice : Expr} {ws : List Value} {o i : Value} {T id : String} {s : Shared} {Q : Value → Shared → Prop} {E : Value → Shared → Prop} (hsl : subscripted slice false o i = operate ws (getItem o i))
    (hl : typeLookup (.type T) "__getitem__" = pure (some (.builtin id))) (hT : s.TypeIs o T) (h : wpAny (model W.prog W.w) cx.A (getItem o i) Q E s) :
    wpAny (model W.prog W.w) cx.A (do
    let r ← subscripted slice (← getitemInPython o) o i
    letTemporaryGo value o r
    pure r) Q E s := by
  refine wpAny_bind ?_
  rw [getitemInPython_of_ne hT.not_modules]
  refine wpAny_bind (wpAny_specialOf hT hl ?_)
  refine wpAny_pure ?_
  rw [hsl]
  exact wpAny_bind (wpAny_operating (wpAny_mono h (fun r s₃ h₃ => wpAny_bind (wpAny_letTemporaryGo (wpAny_pure h₃))) fun _ _ x => x))
theorem sSub {value slice : Expr} {pos : Pos} {dv di : Mo AV} (hv : TE W cx value dv) (hi : TE W cx slice di) (hsl : ∀ o i, subscripted slice false o i = operate [o, i] (getItem o i) := by intro _ _; rfl) :
    TE W cx (.Subscript value slice pos) (bnd dv fun a => bnd di fun i => fGet a i) := by
  intro ads ρ σ v ρ' σ' hd s Q E S k
  refine bnd_elim hd fun a ρ₁ σ₁ e1 hd => ?_
  refine bnd_elim hd fun i ρ₂ σ₂ e2 hd => ?_
  simp only [eval_Subscript]
  refine wpAny_bind (hv _ _ _ _ _ _ e1 s _ _ S fun ads₁ x h₁ tk₁ X₁ r₁ S₁ => wpAny_bind (wpAny_holding ?_))
  refine hi _ _ _ _ _ _ e2 _ _ _ S₁ fun ads₂ y h₂ tk₂ X₂ r₂ S₂ => wpAny_bind (wpAny_standAt ?_)
  have r₁ := VR.mono X₂ r₁
  unfold fGet at hd
  split at hd
  · rename_i z b
    split at hd
    · rename_i j hz hj
      cases isZ_is hz
      obtain ⟨rfl, hj⟩ := ixN_is hj
      obtain ⟨t, hqq⟩ := r₂; subst hqq
      simp only [Int.zero_mul, Int.zero_add]
      split at hd
      · rename_i l
        obtain ⟨u, hqq⟩ := r₁; subst hqq
        split at hd
        · rename_i c ec
          replace k := KK.of hd k
          have hlt := (List.getElem?_eq_some_iff.mp ec).1
          refine sub_at (hsl _ _) F.slot_str_getitem.lookup (typeIs_str _ _ u) (PyProof.Rows.getItem_str (c := c) ?_ ?_ ?_)
          · have h1 : ¬ ((j : Int) < -(2 ^ 63)) := by lia
            have h2 : ¬ ((j : Int) ≥ 2 ^ 63) := by lia
            simp only [decide_eq_false h1, decide_eq_false h2]; rfl
          · simp only [strN_len, seqIndex_nat hlt]; simpa [strN] using ec
          · exact k ads₂ _ h₂ _ (X₁.trans X₂) ⟨_, rfl⟩ S₂
        · exact nos hd
      · split at hd
        · rename_i l e
          split at hd
          · rename_i w ew
            replace k := KK.of hd k
            obtain ⟨p, o, rfl, ep, ho, vs, m, rfl, rv⟩ := S₂.at r₁ e
            obtain ⟨x, ex, rx⟩ := rv.get ew
            have hl : h₂.IsList p vs.toArray := ⟨_, ho, rfl, _, rfl⟩
            refine sub_at (hsl _ _) list_getitem_lookup hl.typeIs (wpAny_getItem_list hl (by lia) (by lia) (x := x) (by simpa using ex) ?_)
            exact k ads₂ _ h₂ _ (X₁.trans X₂) rx S₂
          · exact nos hd
        · rename_i l e
          split at hd
          · rename_i w ew
            replace k := KK.of hd k
            obtain ⟨p, o, rfl, ep, ho, vs, m, rfl, rv⟩ := S₂.at r₁ e
            obtain ⟨x, ex, rx⟩ := rv.get ew
            have hl : IsTup h₂ p vs.toArray := ⟨_, ho, rfl, _, rfl⟩
            have hlt := (List.getElem?_eq_some_iff.mp ex).1
            refine sub_at (hsl _ _) slot_tuple_getitem.lookup hl.typeIs (PyProof.Rows.getItem_tuple hl (by lia) (by lia) (j := j) (x := x) (seqIndex_nat (by simpa using hlt)) (by simpa using ex) ?_)
            exact k ads₂ _ h₂ _ (X₁.trans X₂) rx S₂
          · exact nos hd
        · exact nos hd
      · exact nos hd
    · exact nos hd
  · exact nos hd
/-- v[i] = x -/
noncomputable def fSet (a i v : AV) : Mo Unit := fun ρ σ => match i with
  | .lin z b => match isZ z, ixN b with
    | true, some j => match a with
      | .ref k => match σ.get k with
        | some (.list l) => match Nat.blt j l.length with
          | true => match σ.put k (.list (l.set j v)) with
            | some σ' => some ((), ρ, σ')
            | none => none
          | false => none
        | _ => none
      | _ => none
    | _, _ => none
  | _ => none
theorem oSet {ads : List Addr} {a i v : AV} {x y u : Value} (ha : VR W.q ads a x) (hi : VR W.q ads i y) (hv : VR W.q ads v u) : TAt W cx UR ads (setItem x y u) (fSet a i v) := by
  intro ρ σ r ρ' σ' hd s Q E S k
  unfold fSet at hd
  split at hd
  · split at hd
    · rename_i j hz hj
      cases isZ_is hz
      obtain ⟨rfl, hj⟩ := ixN_is hj
      obtain ⟨t, hqq⟩ := hi; subst hqq
      rw [Int.zero_mul, Int.zero_add]
      split at hd
      · split at hd
        · rename_i l e
          refine gB hd fun hb hd => ?_
          split at hd
          · rename_i σ₁ ep
            replace k := KK.of hd k
            have hlt : j < l.length := Nat.le_of_ble_eq_true hb
            obtain ⟨p, o, rfl, eq, ho, vs, m, rfl, rv⟩ := S.at ha e
            have hl : s.heap.IsList p vs.toArray := ⟨_, ho, rfl, _, rfl⟩
            have hlen := VRs.length rv
            refine ki_setAt ho (by lia) (by lia) (by simp; lia) ?_
            have ho' : (s.heap.update p (Obj.mapSeq (·.setIfInBounds (j : Int).toNat u))).get? p = some (Obj.mapSeq (·.setIfInBounds (j : Int).toNat u) (PySem.W.listOf vs.toArray m)) := Heap.get?_update_self _ ho rfl
            have eo : ∃ n, Obj.mapSeq (·.setIfInBounds (j : Int).toNat u) (PySem.W.listOf vs.toArray m) = PySem.W.listOf (vs.set j u).toArray n := by
              refine ⟨(if (vs.toArray.setIfInBounds (j : Int).toNat u).size == vs.toArray.size then m else m + 1), ?_⟩
              have e0 : vs.toArray.setIfInBounds (j : Int).toNat u = (vs.set j u).toArray := by simp
              simp only [← e0]
              rfl
            obtain ⟨nn, eo⟩ := eo
            rw [eo] at ho'
            exact k ads () _ s.toks (.refl _) trivial (S.upd (ao := .list (l.set j v)) eq (Heap.SameBut.update ..).extBut ho' ⟨vs.set j u, nn, rfl, rv.set hv j⟩ ep)
          · exact nos hd
        · exact nos hd
      · exact nos hd
    · exact nos hd
  · exact nos hd
end


section
variable {W : Wo} {cx : Cx} {n : Nat}
/-! instances -/
theorem isStr_str (x y : Str) (t : Tok) : (Value.str x t).isStr y = (x == y) := rfl
theorem DR.look {q : Int} {P : Params} {ads : List Addr} : ∀ {l : List (Nat × AV)} {es : List DictEntry}, DR q P ads l es → ∀ {k : Nat} {v : AV}, k < NN → look l k = some v → ∃ x, getL (nm k) es = some (some x) ∧ VR q ads v x
  | [], [], _, k, v, hk, h => by cases h
  | (j, a) :: r, e :: es, ⟨hj, ⟨t, hkey⟩, _, hv, hr⟩, k, v, hk, h => by
    unfold Mine.look at h
    rw [beq_dec] at h
    by_cases q : j = k
    · subst q
      simp only [decide_true] at h
      cases Option.some.inj h
      refine ⟨e.val, ?_, hv⟩
      unfold getL
      simp only [List.find?_cons, hkey]
      simp [isStr_str]
    · simp only [q, decide_false] at h
      obtain ⟨x, e1, e2⟩ := DR.look hr hk h
      refine ⟨x, ?_, e2⟩
      have hne : (nm j == nm k) = false := beq_eq_false_iff_ne.mpr fun z => q (nm_inj hj hk z)
      unfold getL at e1 ⊢
      simp only [List.find?_cons, hkey]
      simp only [isStr_str, hne]
      split at e1
      · rename_i e0 ee; simp only [ee]; exact e1
      · split at e1 <;> cases e1
  | [], _ :: _, h, _, _, _, _ => h.elim
  | _ :: _, [], h, _, _, _, _ => h.elim
theorem DR.none {q : Int} {P : Params} {ads : List Addr} {name : Str} (hn : ∀ k < NN, nm k ≠ name) : ∀ {l : List (Nat × AV)} {es : List DictEntry}, DR q P ads l es → getL name es = some none
  | [], [], _ => rfl
  | (j, a) :: r, e :: es, ⟨hj, ⟨t, hkey⟩, _, hv, hr⟩ => by
    have ih := DR.none hn hr
    have hne : (nm j == name) = false := beq_eq_false_iff_ne.mpr (hn j hj)
    unfold getL at ih ⊢
    simp only [List.find?_cons, hkey]
    simp only [isStr_str, hne]
    split at ih
    · cases Option.some.inj ih
    · rename_i ee
      split at ih
      · exact nos ih
      · rename_i ea
        have hrk : e.refKey = false := by unfold DictEntry.refKey; simp only [hkey]
        simp only [ee]
        simp only [List.any_cons, hrk, Bool.false_or]
        rw [if_neg ea]
  | [], _ :: _, h => h.elim
  | _ :: _, [], h => h.elim
theorem DR.nolook {q : Int} {P : Params} {ads : List Addr} : ∀ {l : List (Nat × AV)} {es : List DictEntry}, DR q P ads l es → ∀ {k : Nat}, k < NN → (getL (nm k) es).isSome = true
  | [], [], _, k, hk => rfl
  | (j, a) :: r, e :: es, ⟨hj, ⟨t, hkey⟩, _, hv, hr⟩, k, hk => by
    have ih := DR.nolook hr hk
    unfold getL at ih ⊢
    simp only [List.find?_cons, hkey]
    simp only [isStr_str]
    split
    · rfl
    · rename_i h0
      have h1 : List.find? (fun x => x.key.isStr (nm k)) es = Option.none := by
        split at h0
        · injection h0
        · exact h0
      rw [h1] at ih
      rw [List.any_cons, DictEntry.refKey, hkey, Bool.false_or]
      exact ih
  | [], _ :: _, h, _, _ => h.elim
  | _ :: _, [], h, _, _ => h.elim
theorem DR.put {q : Int} {P : Params} {ads : List Addr} {k : Nat} {v : AV} {y : Value} {t : Tok} (hk : k < NN) (hv : VR q ads v y) : ∀ {l : List (Nat × AV)} {es : List DictEntry}, DR q P ads l es →
    DR q P ads (lput l k v) (PySem.W.putL (nm k) (PyData.keyHash P (nm k)) (.str (nm k) t) y es) ∧ (PySem.W.putL (nm k) (PyData.keyHash P (nm k)) (.str (nm k) t) y es).length ≤ es.length + 1
  | [], [], _ => ⟨⟨hk, ⟨t, rfl⟩, rfl, hv, trivial⟩, by simp [PySem.W.putL]⟩
  | (j, a) :: r, e :: es, ⟨hj, ⟨u, hkey⟩, hh, hx, hr⟩ => by
    obtain ⟨i1, i2⟩ := DR.put hk hv hr
    unfold lput PySem.W.putL
    rw [beq_dec, hkey]
    rw [isStr_str]
    by_cases z : j = k
    · subst z
      simp only [decide_true, beq_self_eq_true, if_true]
      exact ⟨⟨hj, ⟨u, rfl⟩, hh, hv, hr⟩, by simp⟩
    · have hne : (nm j == nm k) = false := beq_eq_false_iff_ne.mpr fun e => z (nm_inj hj hk e)
      simp only [z, decide_false, hne, Bool.false_eq_true, if_false]
      exact ⟨⟨hj, ⟨u, hkey⟩, hh, hx, i1⟩, by simpa using i2⟩
  | [], _ :: _, h => h.elim
  | _ :: _, [], h => h.elim
theorem DR.length {q : Int} {P : Params} {ads : List Addr} : ∀ {l : List (Nat × AV)} {es : List DictEntry}, DR q P ads l es → l.length = es.length
  | [], [], _ => rfl
  | (_, _) :: _, _ :: _, ⟨_, _, _, _, r⟩ => by simp [DR.length r]
  | [], _ :: _, h => h.elim
  | _ :: _, [], h => h.elim
/-- the object of a class that an abstract value names, with its dict -/
noncomputable def instOf (C : Nat) (σ : Sto) (a : AV) : Option (Nat × List (Nat × AV)) := match a with
  | .ref i => match σ.get i with
    | some (.inst C' d) => match Nat.beq C' C with
      | true => match σ.get d with
        | some (.dict l) => some (d, l)
        | _ => none
      | false => none
    | _ => none
  | _ => none
inductive InR (W : Wo) (ads : List Addr) (σ : Sto) (h : Heap) (C d : Nat) (l : List (Nat × AV)) (x : Value) : Prop
  | mk (p : Addr) (dx : Addr) (es : List DictEntry) (n : Nat) (e : x = .ref p) (ed : ads[d]? = some dx) (hd : h.get? dx = some (dictOf es n)) (r : DR W.q W.w.params ads l es) (i : InstAt h p (instObj C dx) C (some (dictOf es n))) (es : σ.get d = some (.dict l)) : InR W ads σ h C d l x
theorem instOf_is {C : Nat} {ads : List Addr} {ρ : Loc} {σ : Sto} {h : Heap} {a : AV} {x : Value} {d : Nat} {l : List (Nat × AV)} (S : St W cx ads ρ σ h) (hv : VR W.q ads a x) (e : instOf C σ a = some (d, l)) :
    InR W ads σ h C d l x := by
  unfold instOf at e
  split at e
  · split at e
    · rename_i i C' d' ei
      split at e
      · rename_i hC
        have hqq := Nat.eq_of_beq_eq_true hC; subst hqq
        split at e
        · rename_i l' ed
          cases Option.some.inj e
          obtain ⟨p, o, rfl, ep, ho, dx, edx, rfl⟩ := S.at hv ei
          obtain ⟨dx', o', e1, e2, es, n, rfl, r⟩ := S.obj _ _ ed
          rw [edx] at e1; cases e1
          exact ⟨p, dx, es, n, rfl, edx, e2, r, ⟨ho, rfl, rfl, e2⟩, ed⟩
        · exact nos e
      · exact nos e
    · exact nos e
  · exact nos e
noncomputable def plainV : AV → Bool
  | .wr _ => false
  | _ => true
theorem plainV_in {ads : List Addr} {a : AV} {x : Value} (h : plainV a = true) (hv : VR W.q ads a x) : handedIn x = true := by
  cases a with
  | none => subst hv; rfl
  | bool b => subst hv; rfl
  | lin a b => obtain ⟨t, rfl⟩ := hv; rfl
  | str s => obtain ⟨t, rfl⟩ := hv; rfl
  | txt s => obtain ⟨t, rfl⟩ := hv; rfl
  | ref k => obtain ⟨a, _, rfl⟩ := hv; rfl
  | wr v => cases h
  | ty n => subst hv; rfl
  | kref k => obtain ⟨a, _, rfl, _⟩ := hv; rfl
noncomputable def fAttr (C k : Nat) (a : AV) : Mo AV := fun ρ σ => match instOf C σ a with
  | some (_, l) => match look l k with
    | some v => match plainV v with
      | true => some (v, ρ, σ)
      | false => none
    | none => none
  | none => none
theorem sAttr (O : Ok W n cx) {C k : Nat} {value : Expr} {attr : Str} {pos : Pos} {d : Mo AV} {at' : Option Value} (h : TE W cx value d) (hx : nm k = attr) (hk : k < NN) (hg : plainGet W.K C attr = true) (hh : hasDictIn W.K C = true)
    (ha : findIn W.K (.ref C) attr = some at') (hn : noGet W.K at' = true)
    (he : ∀ env, eval (.Attribute value attr pos) env = (do
      let o ← eval value env
      standAt pos.atName
      let r ← holding [o] (getAttr o attr true)
      letTemporaryGo value o r
      pure r) := by intro _; rfl) : TE W cx (.Attribute value attr pos) (bnd d (fAttr C k)) := by
  replace hx := hx.symm; subst hx
  intro ads ρ σ v ρ' σ' hd s Q E S kk
  refine bnd_elim hd fun a ρ₁ σ₁ e1 hd => ?_
  refine Attribute_any_ (h _ _ _ _ _ _ e1 s _ _ S fun ads₁ x h₁ tk₁ X₁ r₁ S₁ => ?_) (he _)
  unfold fAttr at hd
  split at hd
  · rename_i dd l ei
    split at hd
    · rename_i u el
      refine gB hd fun hp hd => ?_
      cases Option.some.inj hd
      obtain ⟨p, dx, es, m, rfl, _, _, r, I, _⟩ := instOf_is S₁ r₁ ei
      obtain ⟨y, e2, ry⟩ := r.look hk el
      obtain ⟨mm, F, hm⟩ := S₁.open
      exact get_own F O.kin I hg hh ha hn e2 (plainV_in hp ry) (kk ads₁ y h₁ _ X₁ ry S₁)
    · exact nos hd
  · injection hd
/-- a value of a class's own, written in the source -/
theorem sCAttr (O : Ok W n cx) {C : Addr} {x attr : Str} {xp pos : Pos} {mc a : Value} {av : AV} (h : TE W cx (.Name x xp) (ret (.wr (.ref C)))) (hm : typeIn W.K (.ref C) = some mc) (hr : readsIn W.K C mc = true)
    (e : findCls W.K (.ref C) mc attr = some (.val a)) (hh : handedIn a = true) (hv : ∀ ads, VR W.q ads av a)
    (he : ∀ env, eval (.Attribute (.Name x xp) attr pos) env = (do
      let o ← eval (.Name x xp) env
      standAt pos.atName
      let r ← holding [o] (getAttr o attr true)
      letTemporaryGo (.Name x xp) o r
      pure r) := by intro _; rfl) : TE W cx (.Attribute (.Name x xp) attr pos) (ret av) := by
  intro ads ρ σ v ρ' σ' hd s Q E S kk
  cases Option.some.inj hd
  refine Attribute_any_ (h _ _ _ _ _ _ rfl s _ _ S fun ads₁ y h₁ tk₁ X₁ r₁ S₁ => ?_) (he _)
  subst r₁
  obtain ⟨mm, F, hmm⟩ := S₁.open
  exact cls_val F O.kin hm hr e hh (kk ads₁ a h₁ _ X₁ (hv _) S₁)
theorem Upd.mid {d : Addr} {o o' : Obj} : ∀ (pre post : List (Addr × Obj)), (∀ p ∈ pre, p.1 ≠ d) → (∀ p ∈ post, p.1 ≠ d) → Upd d o o' (pre ++ (d, o) :: post) (pre ++ (d, o') :: post)
  | [], _, _, h => .head h
  | p :: r, post, h1, h2 => .tail (h1 p (List.mem_cons_self ..)) (Upd.mid r post (fun q hq => h1 q (List.mem_cons_of_mem _ hq)) h2)
/-- one object turned, by the library's ledger -/
theorem St.turn {ads : List Addr} {ρ : Loc} {σ σ' : Sto} {h : Heap} (S : St W cx ads ρ σ h) {k : Nat} {a : Addr} {o o' : Obj} {ao : AO} (ea : ads[k]? = some a) (ho : h.get? a = some o) (hσ : σ.put k ao = some σ') (hor : ORw W ads ao o') {m : Str → Option Value} (hm : LocR W ads ρ m) :
    ∃ news', Upd a o o' (newsOf cx h ads) news' ∧ ∀ h', Fr cx.base cx.N h' m → News cx.base cx.N h' news' → St W cx ads ρ σ' h' := by
  have hmem := List.mem_of_getElem? ea
  obtain ⟨l1, l2, el⟩ := List.append_of_mem hmem
  have nd : (l1 ++ a :: l2).Nodup := el ▸ S.nd
  have n1 : a ∉ l1 := fun q => by
    have := (List.nodup_append.mp nd).2.2 a q a (List.mem_cons_self ..)
    exact this rfl
  have n2 : a ∉ l2 := (List.nodup_cons.mp (List.nodup_append.mp nd).2.1).1
  let g : Addr → Addr × Obj := fun a => (a, (h.get? a).getD default)
  let f : Addr × Obj → Addr × Obj := fun p => (p.1, (h.get? p.1).getD default)
  have enews : newsOf cx h ads = (cx.al.map f ++ l1.map g) ++ (a, o) :: l2.map g := by
    show cx.al.map f ++ ads.map g = _
    generalize cx.al.map f = z
    rw [el, List.map_append, List.map_cons, ← List.append_assoc]
    simp [g, ho]
  have p1 : ∀ p ∈ cx.al.map f ++ l1.map g, p.1 ≠ a := by
    intro p hp
    rcases List.mem_append.mp hp with hp | hp
    · obtain ⟨p', hp', rfl⟩ := List.mem_map.mp hp
      exact fun q => (S.pv p' hp').2.2.1 (q ▸ hmem)
    · obtain ⟨b, hb, rfl⟩ := List.mem_map.mp hp
      exact fun q => n1 (q ▸ hb)
  have p2 : ∀ p ∈ l2.map g, p.1 ≠ a := by
    intro p hp
    obtain ⟨b, hb, rfl⟩ := List.mem_map.mp hp
    exact fun q => n2 (q ▸ hb)
  refine ⟨(cx.al.map f ++ l1.map g) ++ (a, o') :: l2.map g, enews ▸ Upd.mid _ _ p1 p2, fun h' F' N' => ?_⟩
  have here : h'.get? a = some o' := (N' (a, o') (by simp)).1
  have oth : ∀ b ∈ ads, b ≠ a → h'.get? b = h.get? b := fun b hb hne => by
    rw [el] at hb
    obtain ⟨_, _, ob, eb⟩ := S.new b (el ▸ hb)
    have : (g b) ∈ (cx.al.map f ++ l1.map g) ++ (a, o') :: l2.map g := by
      rcases List.mem_append.mp hb with hb | hb
      · exact List.mem_append_left _ (List.mem_append_right _ (List.mem_map_of_mem hb))
      · rcases List.mem_cons.mp hb with hb | hb
        · exact absurd hb hne
        · exact List.mem_append_right _ (List.mem_cons_of_mem _ (List.mem_map_of_mem hb))
    have := (N' _ this).1
    simp only [g, eb, Option.getD_some] at this
    simp only [this, eb]
  have ppv : ∀ p ∈ cx.al, h'.get? p.1 = h.get? p.1 := fun p hp => by
    obtain ⟨⟨o₁, e₁, _⟩, _⟩ := S.pv p hp
    have := (N' (f p) (List.mem_append_left _ (List.mem_append_left _ (List.mem_map_of_mem hp)))).1
    simp only [f, e₁, Option.getD_some] at this
    simp only [this, e₁]
  refine ⟨⟨m, F', hm⟩, S.cel, S.nd, (Sto.put_get hσ 0).1.trans S.len, fun b hb => ?_, fun j ao' e => ?_, fun p hp => ⟨(S.pv p hp).1.mp fun o e => (ppv p hp).trans e, (S.pv p hp).2⟩⟩
  · obtain ⟨a1, a2, ob, eb⟩ := S.new b hb
    by_cases q : b = a
    · subst q; exact ⟨a1, a2, o', here⟩
    · exact ⟨a1, a2, ob, (oth b hb q).trans eb⟩
  · rw [(Sto.put_get hσ j).2] at e
    by_cases hj : j = k
    · subst hj
      replace e := (if_pos rfl).symm.trans e
      cases Option.some.inj e
      exact ⟨a, o', ea, here, hor⟩
    · replace e := (if_neg hj).symm.trans e
      obtain ⟨b, ob, e1, e2, e3⟩ := S.obj j ao' e
      refine ⟨b, ob, e1, (oth b (List.mem_of_getElem? e1) fun q => hj ?_).trans e2, e3⟩
      exact nodup_get S.nd e1 (q ▸ ea)
noncomputable def fSetA (C k : Nat) (a v : AV) : Mo Unit := fun ρ σ => match instOf C σ a with
  | some (d, l) => match Nat.ble l.length 900 with
    | true => match σ.put d (.dict (lput l k v)) with
      | some σ' => some ((), ρ, σ')
      | none => none
    | false => none
  | none => none
theorem oSetA (O : Ok W n cx) {C k : Nat} {attr : Str} (hx : nm k = attr) (hk : k < NN) (hs : findIn W.K (.ref C) "__setattr__" = some (some (.builtin "object.__setattr__"))) (hp : plainOver W.K C = true) (ht : takerIn W.K C attr = some none) (hh : hasDictIn W.K C = true)
    {ads : List Addr} {a v : AV} {x y : Value} (ha : VR W.q ads a x) (hv : VR W.q ads v y) : TAt W cx UR ads (setAttr x attr y) (fSetA C k a v) := by
  subst hx
  intro ρ σ r ρ' σ' hd s Q E S kk
  unfold fSetA at hd
  split at hd
  · rename_i d l ei
    refine gB hd fun hl hd => ?_
    split at hd
    · rename_i σ₁ es
      cases Option.some.inj hd
      obtain ⟨p, dx, ee, m, rfl, edx, hdx, rd, I, _⟩ := instOf_is S ha ei
      obtain ⟨mm, F, hm⟩ := S.open
      obtain ⟨d1, d2⟩ := DR.put (t := s.toks + 1) hk hv rd
      obtain ⟨news', U, hk'⟩ := S.turn (o' := dictOf (PySem.W.putL (nm k) (PyData.keyHash W.w.params (nm k)) (.str (nm k) (s.toks + 1)) y ee) (putN (nm k) ee m)) edx hdx es ⟨_, _, rfl, d1⟩ hm
      refine PySem.W.set_dict F O.kin S.news I rfl hs hp ht hh (rd.nolook hk) rfl U ?_ fun h' F' N' => kk ads () h' _ (.refl _) trivial (hk' h' F' N')
      have := Nat.le_of_ble_eq_true hl
      have := rd.length
      lia
    · exact nos hd
  · injection hd
theorem sAsgA (O : Ok W n cx) {C k : Nat} {o : Expr} {attr : Str} {pos' pos : Pos} {value : Expr} {dv dO : Mo AV} (hv : TE W cx value dv) (ho : TE W cx o dO) (hx : nm k = attr) (hk : k < NN) (hs : findIn W.K (.ref C) "__setattr__" = some (some (.builtin "object.__setattr__"))) (hp : plainOver W.K C = true) (ht : takerIn W.K C attr = some none) (hh : hasDictIn W.K C = true)
    (hw : ∀ env, swapsWith value (some (.Attribute o attr pos')) pos.line env = pure false := by intro _; rfl) :
    TS W cx (.Assign [.Attribute o attr pos'] value pos) (bnd dv fun v => bnd dO fun a => bnd (fSetA C k a v) fun _ => ret .next) := by
  intro ads ρ σ v ρ' σ' hd s Q E S kk
  refine opq fun PP oo => ?_
  refine bnd_elim hd fun a ρ₁ σ₁ e1 hd => ?_
  refine bnd_elim hd fun b ρ₂ σ₂ e2 hd => ?_
  refine bnd_elim hd fun u ρ₃ σ₃ e3 hd => ?_
  refine oo ?_
  cases Option.some.inj hd
  refine plainObj_wpAny_Assign_Attribute (hv _ _ _ _ _ _ e1 s _ _ S fun ads₁ x h₁ tk₁ X₁ r₁ S₁ => ?_) (hw _)
  refine ho _ _ _ _ _ _ e2 _ _ _ S₁ fun ads₂ y h₂ tk₂ X₂ r₂ S₂ => ?_
  exact oSetA O hx hk hs hp ht hh r₂ (VR.mono X₂ r₁) _ _ _ _ _ e3 _ _ _ S₂ fun ads₃ z h₃ tk₃ X₃ _ S₃ => kk ads₃ _ h₃ tk₃ (X₁.trans (X₂.trans X₃)) rfl S₃
/-! calls of methods -/
theorem callWith_M {pl : Env → Sem Bool} {o : Expr} {name : Str} {apos pos : Pos} {args : List Expr} {dO : Mo AV} {d : Mo (List AV)} {ap : List AV → Mo AV} {f : Value} (chk : AV → Sto → Bool) (O : Ok W n cx) (ho : TE W cx o dO) (h : TA W cx pos args d)
    (hg : ∀ ads a x ρ σ (s : Shared), St W cx ads ρ σ s.heap → VR W.q ads a x → chk a σ = true → ∀ (Q : Value × List Value → Shared → Prop) (E : Value → Shared → Prop), Q (f, [x]) s → wpAny (model W.prog W.w) cx.A (getMethod x name (pl cx.env)) Q E s)
    (hk : Kp W f) (hF : ∀ ads vs xs, VRs W.q ads vs xs → TAt W cx (VRw W) ads (call f xs) (ap vs))
    (he : ∀ env, eval (.Call (.Attribute o name apos) args [] pos) env = (do
      let ov ← eval o env
      standAt apos.atName
      let (f, first) ← holding [ov] (getMethod ov name (pl env))
      callWith pos f first (backTo pos (starEach args env)) (backToKw pos (keywordEach [] env))))
    (hp : ∀ env, (backTo pos (starEach args env)).any (·.1) = false) :
    TE W cx (.Call (.Attribute o name apos) args [] pos) (bnd dO fun a => fun ρ σ => match chk a σ with | true => bnd d (fun vs => ap (a :: vs)) ρ σ | false => none) := by
  intro ads ρ σ v ρ' σ' hd s Q E S k
  refine bnd_elim hd fun a ρ₁ σ₁ e1 hd => ?_
  refine gB hd fun hc hd => ?_
  simp only [he]
  refine wpAny_bind (ho _ _ _ _ _ _ e1 s _ _ S fun ads₁ x h₁ tk₁ X₁ r₁ S₁ => wpAny_bind (wpAny_standAt (wpAny_bind (wpAny_holding (hg ads₁ a x _ _ { s with heap := h₁, toks := tk₁ } S₁ r₁ hc _ _ ?_)))))
  refine callWith_T (first := [x]) (ap := fun vs => ap (a :: vs)) O h (hp _) hk (fun ads' vs xs X r => ?_) _ _ _ _ _ hd _ _ _ S₁ fun ads₃ z h₃ tk₃ X₃ r₃ S₃ => k ads₃ z h₃ tk₃ (X₁.trans X₃) r₃ S₃
  exact hF ads' (a :: vs) (x :: xs) ⟨r₁.mono X, r⟩
noncomputable def chkI (C : Nat) (a : AV) (σ : Sto) : Bool := (instOf C σ a).isSome
/-- a method of an own class -/
theorem sMeth {pl : Env → Sem Bool} {o : Expr} {name : Str} {apos pos : Pos} {args : List Expr} {dO : Mo AV} {d : Mo (List AV)} {f : Addr} {C m : Nat} {F : List AV → Sto → Option (AV × Sto)} (O : Ok W n cx) (ho : TE W cx o dO) (h : TA W cx pos args d)
    (hF : SF W m (.ref f) F) (hm : m ≤ n) (hk : Kp W (.ref f)) (hg : plainGet W.K C name = true) (hf : findIn W.K (.ref C) name = some (some (.ref f))) (ht : isFn W.K (.ref f) = true) (hno : ∀ k < NN, nm k ≠ name)
    (he : ∀ env, eval (.Call (.Attribute o name apos) args [] pos) env = (do
      let ov ← eval o env
      standAt apos.atName
      let (f, first) ← holding [ov] (getMethod ov name (pl env))
      callWith pos f first (backTo pos (starEach args env)) (backToKw pos (keywordEach [] env))))
    (hp : ∀ env, (backTo pos (starEach args env)).any (·.1) = false := by intro _; rfl) :
    TE W cx (.Call (.Attribute o name apos) args [] pos) (bnd dO fun a => fun ρ σ => match chkI C a σ with | true => bnd d (fun vs => apF F (a :: vs)) ρ σ | false => none) := by
  refine callWith_M (chkI C) O ho h ?_ hk (fun ads vs xs r => hF cx (O.le hm) ads vs xs r) he hp
  intro ads a x ρ σ s S hv hc Q E hq
  unfold chkI at hc
  obtain ⟨⟨d, l⟩, e⟩ := Option.isSome_iff_exists.mp hc
  obtain ⟨p, dx, es, mm, rfl, _, _, r, I, _⟩ := instOf_is S hv e
  obtain ⟨mm, F, hmm⟩ := S.open
  exact method_inst F O.kin I hg hf ht (r.none hno) hq
noncomputable def chkS (a : AV) (_ : Sto) : Bool := match a with | .str _ => true | .txt _ => true | _ => false
noncomputable def chkZ (a : AV) (_ : Sto) : Bool := match a with | .lin _ _ => true | _ => false
noncomputable def chkL (a : AV) (σ : Sto) : Bool := match a with | .ref k => (match σ.get k with | some (.list _) => true | _ => false) | _ => false
theorem sMethB {pl : Env → Sem Bool} {o : Expr} {name : Str} {apos pos : Pos} {args : List Expr} {dO : Mo AV} {d : Mo (List AV)} {T id : String} {m : Nat} {F : List AV → Sto → Option (AV × Sto)} (chk : AV → Sto → Bool) (O : Ok W n cx) (ho : TE W cx o dO) (h : TA W cx pos args d)
    (hc : ∀ ads a x ρ σ (s : Shared), St W cx ads ρ σ s.heap → VR W.q ads a x → chk a σ = true → s.TypeIs x T ∧ (∀ a, x = .ref a → ∃ ob, s.heap.get? a = some ob ∧ ob.dict = none))
    (hF : SF W m (.builtin id) F) (hm : m ≤ n) (pa : PlainAttrs T) (slot : Slot T name id) (hty : typeOf (.builtin id) = pure (.type "method_descriptor"))
    (he : ∀ env, eval (.Call (.Attribute o name apos) args [] pos) env = (do
      let ov ← eval o env
      standAt apos.atName
      let (f, first) ← holding [ov] (getMethod ov name (pl env))
      callWith pos f first (backTo pos (starEach args env)) (backToKw pos (keywordEach [] env))))
    (hp : ∀ env, (backTo pos (starEach args env)).any (·.1) = false := by intro _; rfl) :
    TE W cx (.Call (.Attribute o name apos) args [] pos) (bnd dO fun a => fun ρ σ => match chk a σ with | true => bnd d (fun vs => apF F (a :: vs)) ρ σ | false => none) := by
  refine callWith_M chk O ho h ?_ Kp.builtin (fun ads vs xs r => hF cx (O.le hm) ads vs xs r) he hp
  intro ads a x ρ σ s S hv hcc Q E hq
  obtain ⟨hT, hd⟩ := hc ads a x ρ σ s S hv hcc
  exact getMethod_builtin hT pa slot hty hd hq
theorem chkS_is (ads : List Addr) (a : AV) (x : Value) (ρ : Loc) (σ : Sto) (s : Shared) (_ : St W cx ads ρ σ s.heap) (hv : VR W.q ads a x) (h : chkS a σ = true) : s.TypeIs x "str" ∧ (∀ a, x = .ref a → ∃ ob, s.heap.get? a = some ob ∧ ob.dict = none) := by
  unfold chkS at h
  split at h
  · obtain ⟨t, rfl⟩ := hv; exact ⟨typeIs_str _ _ _, fun _ e => nomatch e⟩
  · obtain ⟨t, rfl⟩ := hv; exact ⟨typeIs_str _ _ _, fun _ e => nomatch e⟩
  · injection h
theorem chkZ_is (ads : List Addr) (a : AV) (x : Value) (ρ : Loc) (σ : Sto) (s : Shared) (_ : St W cx ads ρ σ s.heap) (hv : VR W.q ads a x) (h : chkZ a σ = true) : s.TypeIs x "int" ∧ (∀ a, x = .ref a → ∃ ob, s.heap.get? a = some ob ∧ ob.dict = none) := by
  unfold chkZ at h
  split at h
  · obtain ⟨t, rfl⟩ := hv; exact ⟨typeIs_int _ _ _, fun _ e => nomatch e⟩
  · injection h
theorem chkL_is (ads : List Addr) (a : AV) (x : Value) (ρ : Loc) (σ : Sto) (s : Shared) (S : St W cx ads ρ σ s.heap) (hv : VR W.q ads a x) (h : chkL a σ = true) : s.TypeIs x "list" ∧ (∀ a, x = .ref a → ∃ ob, s.heap.get? a = some ob ∧ ob.dict = none) := by
  unfold chkL at h
  split at h
  · split at h
    · rename_i l e
      obtain ⟨p, o, rfl, ep, ho, vs, m, rfl, rv⟩ := S.at hv e
      exact ⟨⟨_, ho, rfl⟩, fun b e => by cases e; exact ⟨_, ho, rfl⟩⟩
    · injection h
  · injection h
/-- a method of an own class, the last argument by name -/
theorem sMethK {pl : Env → Sem Bool} {o : Expr} {name kw : Str} {apos pos kp : Pos} {arg kv : Expr} {dO dA dK : Mo AV} {f : Addr} {C m : Nat} {F : List AV → Sto → Option (AV × Sto)} (O : Ok W n cx) (ho : TE W cx o dO) (h : TE W cx arg dA) (hkv : TE W cx kv dK)
    (hF : SC W m (.ref f) [kw] F) (hm : m ≤ n) (hk : keepIn W.K (.ref f) = true) (hg : plainGet W.K C name = true) (hf : findIn W.K (.ref C) name = some (some (.ref f))) (ht : isFn W.K (.ref f) = true) (hno : ∀ k < NN, nm k ≠ name)
    (he : ∀ env, eval (.Call (.Attribute o name apos) [arg] [⟨some kw, kv, kp⟩] pos) env = (do
      let ov ← eval o env
      standAt apos.atName
      let (f, first) ← holding [ov] (getMethod ov name (pl env))
      callWith pos f first (backTo pos (starEach [arg] env)) (backToKw pos (keywordEach [⟨some kw, kv, kp⟩] env))))
    (he' : ∀ env, starEach [arg] env = (false, eval arg env) :: starEach [] env := by intro _; rfl) :
    TE W cx (.Call (.Attribute o name apos) [arg] [⟨some kw, kv, kp⟩] pos) (bnd dO fun a => fun ρ σ => match chkI C a σ with | true => bnd dA (fun b => bnd dK fun c => apF F [a, b, c]) ρ σ | false => none) := by
  intro ads ρ σ v ρ' σ' hd s Q E S k
  refine opq fun PP oo => ?_
  refine bnd_elim hd fun a ρ₁ σ₁ e1 hd => ?_
  refine gB hd fun hc hd => ?_
  refine bnd_elim hd fun b ρ₂ σ₂ e2 hd => ?_
  refine bnd_elim hd fun c ρ₃ σ₃ e3 hd => ?_
  refine oo ?_
  simp only [he]
  refine wpAny_bind (ho _ _ _ _ _ _ e1 s _ _ S fun ads₁ x h₁ tk₁ X₁ r₁ S₁ => wpAny_bind (wpAny_standAt (wpAny_bind (wpAny_holding ?_))))
  unfold chkI at hc
  obtain ⟨⟨d, l⟩, e⟩ := Option.isSome_iff_exists.mp hc
  obtain ⟨p, dx, es, mm, rfl, _, _, r, I, _⟩ := instOf_is S₁ r₁ e
  obtain ⟨mm, F₁, hmm⟩ := S₁.open
  refine method_inst F₁ O.kin I hg hf ht (r.none hno) ?_
  refine callWith_KW (h₀ := cx.base) O.kin hk rfl ?_ (by rw [he']; rfl) (he' _)
  rw [he']
  show wpAny _ _ (spliced ((false, eval arg cx.env) :: backTo pos (starEach [] cx.env))) _ _ _
  rw [spliced]
  dsimp only [↓dreduceIte]
  refine wpAny_bind (h _ _ _ _ _ _ e2 _ _ _ S₁ fun ads₂ y h₂ tk₂ X₂ r₂ S₂ => wpAny_bind (wpAny_pure (wpAny_bind (wpAny_holding ?_))))
  refine Calls.spliced_nil (wpAny_pure ?_)
  refine kwAll_cons ?_
  refine hkv _ _ _ _ _ _ e3 _ _ _ S₂ fun ads₃ z h₃ tk₃ X₃ r₃ S₃ => ?_
  refine kwAll_nil ⟨?_, ?_⟩
  · obtain ⟨m₃, F₃, _⟩ := S₃.open
    exact O.kin.keeps F₃.keep
  · unfold apF at hd
    split at hd
    · rename_i v₁ σ₄ e4
      replace k := KK.of hd k
      exact wpAny_call (hF cx (O.le hm) ads₃ [a, b, c] [.ref p, y, z] ⟨(r₁.mono X₂).mono X₃, r₂.mono X₃, r₃, trivial⟩ _ _ _ _ e4 { s with heap := h₃, toks := tk₃ } _ S₃ fun ads' w h' tk X r S' => k ads' w h' tk (X₁.trans (X₂.trans (X₃.trans X))) r S')
    · exact nos hd
/-- an object that stands apart is entered -/
theorem St.adopt {ads : List Addr} {ρ : Loc} {σ σ' : Sto} {h : Heap} (S : St W cx ads ρ σ h) {a : Addr} {o : Obj} {ao : AO} {k : Nat} (P : Apart cx ads a) (ho : h.get? a = some o) (hor : ORw W ads ao o) (hσ : σ.new ao = some (k, σ')) :
    GrR W cx ads ρ σ' h a k := by
  have X : Ext ads (ads ++ [a]) := ⟨[a], rfl⟩
  have hk0 : k = ads.length := (Sto.new_get hσ 0).1.trans S.len
  have here : (ads ++ [a])[k]? = some a := by simp only [hk0]; simp
  refine ⟨⟨?_, ?_, ?_, ?_, ?_, ?_, fun p hp => ?_⟩, X, here⟩
  rotate_right
  · obtain ⟨p1, p2, p3, p4⟩ := S.pv p hp
    refine ⟨p1, p2, fun hm => ?_, p4⟩
    rcases List.mem_append.mp hm with hm | hm
    · exact p3 hm
    · simp at hm
      exact P.p p hp hm
  · obtain ⟨m, F, r⟩ := S.fr
    refine ⟨m, F, fun j v e => ?_⟩
    obtain ⟨a1, x, a2, a3⟩ := r j v e
    exact ⟨a1, x, a2, a3.mono X⟩
  · intro j c e
    obtain ⟨b, e1, e2⟩ := S.cel j c e
    exact ⟨b, X.get e1, e2⟩
  · refine List.nodup_append.mpr ⟨S.nd, by simp, ?_⟩
    intro x hx y hy
    simp at hy
    replace hy := hy.symm; subst hy
    exact fun q => P.m (q ▸ hx)
  · simp only [(Sto.new_get hσ 0).2.1, S.len, List.length_append]; rfl
  · intro b hb
    rcases List.mem_append.mp hb with hb | hb
    · exact S.new b hb
    · simp at hb
      replace hb := hb.symm; subst hb
      exact ⟨P.n, P.b, o, ho⟩
  · intro j ao' e
    rw [(Sto.new_get hσ j).2.2] at e
    by_cases hj : j = k
    · subst hj
      replace e := (if_pos rfl).symm.trans e
      cases Option.some.inj e
      exact ⟨a, o, here, ho, OR.mono X hor⟩
    · replace e := (if_neg hj).symm.trans e
      obtain ⟨b, o', e1, e2, e3⟩ := S.obj j ao' e
      exact ⟨b, o', X.get e1, e2, OR.mono X e3⟩
/-- making an object of a class -/
noncomputable def clsF (C : Nat) (F : List AV → Sto → Option (AV × Sto)) (vs : List AV) (σ : Sto) : Option (AV × Sto) := match σ.new (.dict []) with
  | some (d, σ₁) => match σ₁.new (.inst C d) with
    | some (i, σ₂) => match F (.ref i :: vs) σ₂ with
      | some (.none, σ₃) => some (.ref i, σ₃)
      | _ => none
    | none => none
  | none => none
end
theorem Ok.under1 {W : Wo} {cx : Cx} {n : Nat} (O : Ok W (n + 1) cx) {A : Around} (h1 : A.handled = cx.A.handled) (h2 : A.depth = cx.A.depth + 1) (h3 : A.units = cx.A.units + 1) (h4 : A.frames = cx.A.frames) : Ok W n { cx with A := A } :=
  ⟨h1.trans O.hh, by have := O.dp; show A.depth + n < _; lia, by have := O.un; show A.units + 8 * n + 100 < _; lia, O.kin, O.top, O.loc, O.fk, O.gl, O.bi, O.hq, by obtain ⟨b₀, fs, e1, e2⟩ := O.fr; exact ⟨b₀, fs, h4.trans e1, e2⟩⟩
theorem Around.under_frames {A : Around} {c : Code} (h : c.envs = []) : (A.under c).frames = A.frames := by
  show pushEnvs c.envs A.frames = A.frames
  rw [h]
  cases A.frames <;> rfl
theorem St.otherA {W : Wo} {cx : Cx} {ads : List Addr} {ρ : Loc} {σ : Sto} {h : Heap} (S : St W cx ads ρ σ h) (A : Around) : St W { cx with A := A } ads ρ σ h := ⟨S.fr, S.cel, S.nd, S.len, S.new, S.obj, S.pv⟩
theorem St.backA {W : Wo} {cx : Cx} {ads : List Addr} {ρ : Loc} {σ : Sto} {h : Heap} {A : Around} (S : St W { cx with A := A } ads ρ σ h) : St W cx ads ρ σ h := ⟨S.fr, S.cel, S.nd, S.len, S.new, S.obj, S.pv⟩
theorem SF_cls {W : Wo} {n : Nat} {C fI : Addr} {F : List AV → Sto → Option (AV × Sto)} (h : SC W n (.ref fI) [] F) (hm : makesIn W.K C = true) (hi : findIn W.K (.ref C) "__init__" = some (some (.ref fI))) (hf : isFn W.K (.ref fI) = true) : SF W (n + 1) (.ref C) (clsF C F) := by
  intro cx O ads vs xs hv ρ σ v ρ' σ' hd s Q E S k
  refine opq fun PP oo => ?_
  unfold apF clsF at hd
  split at hd
  · rename_i v₁ σ₁ hd'
    replace k := KK.of hd k
    refine gN hd' fun d σ₁ e1 hd' => ?_
    refine gN hd' fun i σ₂ e2 hd' => ?_
    split at hd'
    · rename_i σ₃ e3
      refine oo ?_
      cases Option.some.inj hd'
      obtain ⟨mm, F₀, hmm⟩ := S.open
      refine call_cls F₀ O.kin S.news hm hi hf fun x dx h' F' N' hlo hlt => ?_
      have S₁ := S.close hmm F' (S.kept N' fun p hp => List.mem_cons_of_mem _ (List.mem_cons_of_mem _ hp))
      have old : ∀ a, dx ≤ a → a ∉ ads ∧ ∀ p ∈ cx.al, p.1 ≠ a := fun a hl => ⟨fun q => by
        have : a < dx := hlo (a, _) (List.mem_append_right _ (List.mem_map_of_mem q))
        exact absurd this (Nat.not_lt.mpr hl), fun p hp q => by
        have : p.1 < dx := hlo (p.1, (s.heap.get? p.1).getD default) (List.mem_append_left _ (List.mem_map.mpr ⟨p, hp, rfl⟩))
        rw [q] at this
        exact absurd this (Nat.not_lt.mpr hl)⟩
      obtain ⟨d1, d2, d3⟩ := N' (dx, dictOf [] 0) (List.mem_cons_of_mem _ (List.mem_cons_self ..))
      obtain ⟨x1, x2, x3⟩ := N' (x, instObj C dx) (List.mem_cons_self ..)
      obtain ⟨S₂, X₂, g₂⟩ := S₁.adopt (ao := .dict []) ⟨d2, (old dx (Nat.le_refl _)).1, d3, (old dx (Nat.le_refl _)).2⟩ d1 ⟨[], 0, rfl, trivial⟩ e1
      obtain ⟨S₃, X₃, g₃⟩ := S₂.adopt (ao := .inst C d) ⟨x2, fun q => by
        rcases List.mem_append.mp q with q | q
        · exact (old x (Nat.le_of_lt hlt)).1 q
        · simp at q; exact absurd q (Nat.ne_of_gt hlt), x3, (old x (Nat.le_of_lt hlt)).2⟩ x1 ⟨dx, g₂, rfl⟩ e2
      rw [← argsOf_nil (.ref x :: xs)]
      refine h { cx with A := cx.A.under (.builtin "type.__call__" ⟨.ref C :: xs, []⟩) } (O.under1 rfl rfl rfl (Around.under_frames rfl)) _ (.ref i :: vs) (.ref x :: xs) ⟨⟨x, g₃, rfl⟩, VRs.mono (X₂.trans X₃) hv⟩ ρ σ₂ _ _ e3 { s with heap := h' } _ (S₃.otherA _) fun ads' y h₂ tk X r S' => ?_
      subst r
      exact ⟨rfl, k ads' _ h₂ tk ((X₂.trans X₃).trans X) ⟨x, X.get g₃, rfl⟩ S'.backA⟩
    · exact nos hd'
  · exact nos hd


/-! cells -/
noncomputable def consN : Nat → List Nat → List (Str × Addr) → List (Str × Addr)
  | _, [], acc => acc
  | n, k :: ks, acc => consN (n + 1) ks ((nm k, n) :: acc)
noncomputable def pushN : Heap → Nat → Heap
  | h, 0 => h
  | h, n + 1 => pushN (h.push { cls := .type "cell", data := .cell none }) n
noncomputable def ownCells : List Nat → Sto → Option (List (Nat × Nat) × Sto)
  | [], σ => some ([], σ)
  | k :: ks, σ => match σ.new (.cell none) with
    | some (c, σ₁) => match ownCells ks σ₁ with
      | some (l, σ₂) => some ((k, c) :: l, σ₂)
      | none => none
    | none => none
noncomputable def frN (cells : List (Str × Addr)) : List Nat → List (Str × Addr) → List (Str × Addr)
  | [], acc => acc
  | k :: ks, acc => frN cells ks ((nm k, (cells.lookup (nm k)).getD 0) :: acc)
noncomputable def celsOf (ρ : Loc) : List Nat → Option (List (Nat × Nat))
  | [] => some []
  | k :: ks => match look ρ.cel k, celsOf ρ ks with
    | some c, some l => some ((k, c) :: l)
    | _, _ => none
theorem pushN_keeps : ∀ (n : Nat) (h : Heap) (b : Addr) (o : Obj), h.get? b = some o → (pushN h n).get? b = some o
  | 0, _, _, _, e => e
  | n + 1, h, b, o, e => pushN_keeps n _ b o (Heap.get?_push_of_some _ e)
theorem nm_beq {i j : Nat} (hi : i < NN) (hj : j < NN) : (nm i == nm j) = decide (i = j) := by
  by_cases h : i = j
  · subst h; simp
  · simp only [beq_eq_false_iff_ne.mpr fun e => h (nm_inj hi hj e)]; simp [h]
theorem consN_out {j : Nat} (hj : j < NN) : ∀ (ks : List Nat) (n : Nat) (acc : List (Str × Addr)), (∀ k ∈ ks, k < NN) → j ∉ ks → (consN n ks acc).lookup (nm j) = acc.lookup (nm j)
  | [], _, _, _, _ => rfl
  | k :: ks, n, acc, hk, hn => by
    dsimp only [consN]
    rw [consN_out hj ks _ _ (fun x hx => hk x (List.mem_cons_of_mem _ hx)) (fun q => hn (List.mem_cons_of_mem _ q))]
    rw [List.lookup_cons, nm_beq hj (hk k (List.mem_cons_self ..))]
    have : ¬ j = k := fun q => hn (q ▸ List.mem_cons_self ..)
    simp [this]
theorem frN_out {cells : List (Str × Addr)} {j : Nat} (hj : j < NN) : ∀ (ks : List Nat) (acc : List (Str × Addr)), (∀ k ∈ ks, k < NN) → j ∉ ks → (frN cells ks acc).lookup (nm j) = acc.lookup (nm j)
  | [], _, _, _ => rfl
  | k :: ks, acc, hk, hn => by
    dsimp only [frN]
    rw [frN_out hj ks _ (fun x hx => hk x (List.mem_cons_of_mem _ hx)) (fun q => hn (List.mem_cons_of_mem _ q))]
    rw [List.lookup_cons, nm_beq hj (hk k (List.mem_cons_self ..))]
    have : ¬ j = k := fun q => hn (q ▸ List.mem_cons_self ..)
    simp [this]
theorem frN_in {cells : List (Str × Addr)} {j : Nat} (hj : j < NN) : ∀ (ks : List Nat) (acc : List (Str × Addr)), (∀ k ∈ ks, k < NN) → ks.Nodup → j ∈ ks → (frN cells ks acc).lookup (nm j) = some ((cells.lookup (nm j)).getD 0)
  | k :: ks, acc, hk, nd, hm => by
    dsimp only [frN]
    obtain ⟨n1, n2⟩ := List.nodup_cons.mp nd
    have hk' := fun x hx => hk x (List.mem_cons_of_mem _ hx)
    by_cases q : j = k
    · replace q := q.symm; subst q
      rw [frN_out hj ks _ hk' n1]
      simp
    · exact frN_in hj ks _ hk' n2 ((List.mem_cons.mp hm).resolve_left q)
theorem celsOf_look {ρ : Loc} : ∀ {ks : List Nat} {l : List (Nat × Nat)}, celsOf ρ ks = some l → ∀ {j c : Nat}, look l j = some c → j ∈ ks ∧ look ρ.cel j = some c
  | [], l, h, j, c, e => by cases h; cases e
  | k :: ks, l, h, j, c, e => by
    dsimp only [celsOf] at h
    split at h
    · rename_i c' l' e1 e2
      cases Option.some.inj h
      dsimp only [look] at e
      rw [beq_dec] at e
      by_cases q : k = j
      · subst q
        simp only [decide_true] at e
        cases Option.some.inj e
        exact ⟨List.mem_cons_self .., e1⟩
      · simp only [q, decide_false] at e
        obtain ⟨i1, i2⟩ := celsOf_look e2 e
        exact ⟨List.mem_cons_of_mem _ i1, i2⟩
    · exact nos h
theorem celsOf_all {ρ : Loc} : ∀ {ks : List Nat} {l : List (Nat × Nat)}, celsOf ρ ks = some l → ∀ k ∈ ks, ∃ c, look ρ.cel k = some c
  | k :: ks, l, h, j, hj => by
    dsimp only [celsOf] at h
    split at h
    · rename_i c' l' e1 e2
      rcases List.mem_cons.mp hj with rfl | hj
      · exact ⟨_, e1⟩
      · exact celsOf_all e2 j hj
    · injection h
theorem cells_T {W : Wo} {cx : Cx} {ρ : Loc} : ∀ {ks : List Nat} {ads : List Addr} {σ σ' : Sto} {h : Heap} {l : List (Nat × Nat)}, St W cx ads ρ σ h → ownCells ks σ = some (l, σ') → ks.Nodup → (∀ k ∈ ks, k < NN) →
    ∃ ads', Ext ads ads' ∧ St W cx ads' ρ σ' (pushN h ks.length) ∧ ∀ j c, look l j = some c → j ∈ ks ∧ ∃ a, ads'[c]? = some a ∧ ∀ acc, (consN h.objs.size ks acc).lookup (nm j) = some a
  | [], ads, σ, σ', h, l, S, e, _, _ => by
    cases Option.some.inj e
    exact ⟨ads, .refl _, S, fun j c e => by cases e⟩
  | k :: ks, ads, σ, σ', h, l, S, e, nd, hk => by
    dsimp only [ownCells] at e
    split at e
    · rename_i c σ₁ e1
      split at e
      · rename_i l' σ₂ e2
        cases Option.some.inj e
        obtain ⟨n1, n2⟩ := List.nodup_cons.mp nd
        have hk' := fun x hx => hk x (List.mem_cons_of_mem _ hx)
        obtain ⟨S₁, X₁, g₁⟩ := S.alloc (h' := h.push { cls := .type "cell", data := .cell none }) (fun b o e => Heap.get?_push_of_some _ e) (heap_fresh h) (Heap.get?_push_size _ rfl) (ao := .cell none) rfl e1
        obtain ⟨ads', X, S', hl⟩ := cells_T S₁ e2 n2 hk'
        refine ⟨ads', X₁.trans X, S', fun j c' el => ?_⟩
        dsimp only [look] at el
        rw [beq_dec] at el
        by_cases q : k = j
        · subst q
          simp only [decide_true] at el
          cases Option.some.inj el
          refine ⟨List.mem_cons_self .., _, X.get g₁, fun acc => ?_⟩
          dsimp only [consN]
          rw [consN_out (hk k (List.mem_cons_self ..)) ks _ _ hk' n1]
          simp
        · simp only [q, decide_false] at el
          obtain ⟨i1, a, i2, i3⟩ := hl j c' el
          refine ⟨List.mem_cons_of_mem _ i1, a, i2, fun acc => ?_⟩
          dsimp only [consN]
          rw [Heap.size_push] at i3
          exact i3 _
      · exact nos e
    · exact nos e
theorem closureFor_fr {env : Env} {scope : Scope} {ks : List Nat} (hn : (scope.names.filterMap fun x => if x.2 == .free then some x.1 else none) = ks.map nm) (hc : ∀ k ∈ ks, ∃ a, env.cells.lookup (nm k) = some a) :
    closureFor scope env = pure (frN env.cells ks []) := by
  have main : ∀ (names : List (Str × NameKind)) (ks : List Nat) (acc : List (Str × Addr)), (names.filterMap fun x => if x.2 == .free then some x.1 else none) = ks.map nm → (∀ k ∈ ks, ∃ a, env.cells.lookup (nm k) = some a) →
      (forIn names acc fun x cs => if x.2 == .free then (do let a ← cellOf env x.1; pure (ForInStep.yield ((x.1, a) :: cs))) else pure (ForInStep.yield cs) : Sem (List (Str × Addr))) = pure (frN env.cells ks acc) := by
    intro names
    induction names with
    | nil =>
      intro ks acc h _
      cases ks with
      | nil => rfl
      | cons _ _ => cases h
    | cons x r ih =>
      intro ks acc h hc
      obtain ⟨n, kd⟩ := x
      simp only [List.forIn_cons]
      by_cases q : (kd == NameKind.free) = true
      · simp only [List.filterMap_cons, q, if_true] at h
        cases ks with
        | nil => cases h
        | cons k ks =>
          simp only [List.map_cons, List.cons.injEq] at h
          obtain ⟨rfl, h⟩ := h
          obtain ⟨a, ea⟩ := hc k (List.mem_cons_self ..)
          have e1 : cellOf env (nm k) = pure a := by dsimp only [cellOf]; rw [ea]
          simp only [q, if_true, e1, pure_bind]
          rw [ih ks _ h fun j hj => hc j (List.mem_cons_of_mem _ hj)]
          have e2 : frN env.cells (k :: ks) acc = frN env.cells ks ((nm k, a) :: acc) := by
            show frN env.cells ks ((nm k, (env.cells.lookup (nm k)).getD 0) :: acc) = _
            rw [ea]; rfl
          simp only [e2]
      · simp only [List.filterMap_cons, q] at h
        simp only [q]
        exact ih ks acc h hc
  have := main scope.names ks [] hn hc
  dsimp only [closureFor]
  simp only [this, pure_bind]

section
variable {W : Wo} {cx : Cx} {n : Nat}
variable {ads : List Addr} {ρ : Loc} {σ : Sto} {h : Heap}
theorem St.hideG (S : St W cx ads ρ σ h) {m : Str → Option Value} (F : Fr cx.base cx.N h m) {hid : List Addr} (hN : cx.N ∉ hid) (hb : ∀ a ∈ hid, cx.base.get? a = none) :
    cx.base.StaysIn (hideAll h hid) ∧ (∃ o, (hideAll h hid).get? cx.N = some o ∧ h.get? cx.N = some o) ∧ Fr cx.base cx.N (hideAll h hid) m := by
  have nm : ∀ b o, cx.base.get? b = some o → b ∉ hid := fun b o e q => by
    have := hb b q
    cases (e).symm.trans this
  have st : cx.base.StaysIn (hideAll h hid) := fun b o e => hideAll_get _ (F.keep b o e) (nm b o e)
  obtain ⟨oN, es, ep, hN', r⟩ := F.ns
  exact ⟨st, ⟨oN, hideAll_get _ hN' hN, hN'⟩, ⟨⟨oN, es, ep, hideAll_get _ hN' hN, r⟩, st, F.above⟩⟩
theorem St.backG {cx' : Cx} {ads' : List Addr} {ρ' : Loc} {σ' : Sto} {h' : Heap} (S : St W cx ads ρ σ h) {hid : List Addr} (hN : cx.N ∉ hid) (hbs : ∀ a ∈ hid, cx.base.get? a = none) (hpv : ∀ p ∈ cx.al, p.1 ∉ hid)
    (hb : cx'.base = hideAll h hid) (S' : St W cx' ads' ρ' σ' h') (X : Ext ads ads') : St W cx ads' ρ σ' h' := by
  obtain ⟨m, F, hm⟩ := S.open
  obtain ⟨st, ⟨oN, hN, hN'⟩, FG⟩ := S.hideG F hN hbs
  obtain ⟨m', F', hm'⟩ := S'.open
  have keepN : h'.get? cx.N = some oN := F'.keep _ _ (hb ▸ hN)
  have old : ∀ b o, (hideAll h hid).get? b = some o → h'.get? b = some o ∧ b ∉ ads' := fun b o e => ⟨F'.keep _ _ (hb ▸ e), fun hm => by
    have := (S'.new b hm).2.1
    rw [hb, e] at this; cases this⟩
  refine ⟨⟨m, ?_, fun k v e => ?_⟩, fun k c e => ?_, S'.nd, S'.len, fun a ha => ?_, S'.obj, fun p hp => ?_⟩
  rotate_right
  · obtain ⟨⟨o, e, fz⟩, p2, p3, p4⟩ := S.pv p hp
    obtain ⟨q1, q2⟩ := old p.1 o (hideAll_get _ e (hpv p hp))
    exact ⟨⟨o, q1, fz⟩, p2, q2, p4⟩
  · obtain ⟨oN', es, ep, hN2, r⟩ := F.ns
    cases Option.some.inj ((hN').symm.trans hN2)
    exact ⟨⟨oN, es, ep, keepN, r⟩, fun b o e => F'.keep b o (hb ▸ st b o e), F.above⟩
  · obtain ⟨a1, x, a2, a3⟩ := hm k v e
    exact ⟨a1, x, a2, a3.mono X⟩
  · obtain ⟨a, e1, e2⟩ := S.cel k c e
    exact ⟨a, X.get e1, e2⟩
  · obtain ⟨a1, a2, o, e⟩ := S'.new a ha
    refine ⟨fun q => ?_, ?_, o, e⟩
    · rw [q, hb, hN] at a2; cases a2
    · cases q : cx.base.get? a with
      | none => rfl
      | some o' => rw [hb, st _ _ q] at a2; cases a2
/-- the ground of a block of a comprehension -/
theorem Ok.block (O : Ok W n cx) (S : St W cx ads ρ σ h) {hid : List Addr} (hN : cx.N ∉ hid) (hbs : ∀ a ∈ hid, cx.base.get? a = none) (hfz : ∀ p ∈ cx.fz, p.1 ∉ hid) {env : Env} {C : Addr} (pv : List (Addr × Obj)) (hC : env.locals = C) (hfk : env.scope.kind = .function) (hg : env.globals = mainGlobals) (hbi : env.builtins = builtinsNs) :
    Ok W n ⟨cx.A, hideAll h hid, C, env, pv, []⟩ := by
  obtain ⟨mm, F, _⟩ := S.open
  obtain ⟨st, ⟨oN, eN, _⟩, FG⟩ := S.hideG F hN hbs
  refine ⟨O.hh, O.dp, O.un, fun b o e => st b o (O.kin b o e), O.top.keeps st, hC, hfk, hg, hbi, O.hq, ?_⟩
  obtain ⟨b₀, fs, e1, e2⟩ := O.fr
  refine ⟨b₀, fs, e1, fun h' m' F' _ => e2 h' mm (FG.keeps fun b o e => F'.keep b o e) fun p hp => ?_⟩
  obtain ⟨⟨o, e, r⟩, _⟩ := S.pv p (List.mem_append_right _ hp)
  exact ⟨o, F'.keep _ _ (hideAll_get _ e (hfz p hp)), r⟩
/-- an iterator's iterator is itself -/
theorem pyIter_src {src : Src} {o : Obj} {it : Addr} {A : Around} {s : Shared} {Q : Value → Shared → Prop} {E : Value → Shared → Prop} (hs : SrcR W ads src o) (ho : s.heap.get? it = some o) (hr : match src with | .rev _ _ => False | _ => True) (k : Q (.ref it) s) :
    wpAny (model W.prog W.w) A (pyIter (.ref it)) Q E s := by
  cases src with
  | lst l i => obtain ⟨b, _, hc, hd⟩ := hs; exact wpAny_pyIter_listiter (fields_list ho hc hd) k
  | tup l i => obtain ⟨b, _, hc, hd⟩ := hs; exact wpAny_pyIter_tupleiter ⟨o, ho, hc, hd⟩ k
  | rng a b n => exact wpAny_pyIter_rangeiter (x := a * W.q + b) (left := n) (step := 1) (ho.trans (congrArg some hs)) k
  | chs x i =>
    obtain ⟨t, hc, hd⟩ := hs
    dsimp only [strIterType] at hc
    split at hc
    · exact wpAny_pyIter_striter_ascii (x := strN x) (t := t) ⟨o, ho, hc, hd⟩ k
    · exact wpAny_pyIter_striter_wide (x := strN x) (t := t) ⟨o, ho, hc, hd⟩ k
  | rev l i => exact hr.elim
end

/-! list.append -/
noncomputable def fApp (a v : AV) : Mo AV := fun ρ σ => match a with
  | .ref k => match σ.get k with
    | some (.list l) => match Nat.ble l.length 1000000 with
      | true => match σ.put k (.list (l ++ [v])) with
        | some σ' => some (.none, ρ, σ')
        | none => none
      | false => none
    | _ => none
  | _ => none
section
variable {W : Wo} {cx : Cx} {n : Nat}
theorem VRs.snoc {q : Int} {ads : List Addr} {l : List AV} {vs : List Value} {v : AV} {x : Value} (r : VRs q ads l vs) (h : VR q ads v x) : VRs q ads (l ++ [v]) (vs ++ [x]) := VRs.append r ⟨h, trivial⟩
theorem oApp {ads : List Addr} {a v : AV} {x y : Value} (ha : VR W.q ads a x) (hv : VR W.q ads v y) : TAt W cx (VRw W) ads (call (.builtin "list.append") [x, y]) (fApp a v) := by
  intro ρ σ r ρ' σ' hd s Q E S k
  refine opq fun PP oo => ?_
  dsimp only [fApp] at hd
  split at hd
  · split at hd
    · rename_i l e
      split at hd
      · rename_i hl
        split at hd
        · rename_i σ₁ ep
          replace k := KK.of hd k
          refine oo ?_
          obtain ⟨p, o, rfl, eq, ho, vs, m, rfl, rv⟩ := S.at ha e
          refine append_at ho (fun h' hs ho' => ?_) (by have := VRs.length rv; have := small_size hl; simp; lia)
          refine k ads _ h' s.toks (.refl _) rfl (S.upd (ao := .list (l ++ [v])) eq hs.extBut ho' ⟨vs ++ [y], m + 1, by simp, rv.snoc hv⟩ ep)
        · exact nos hd
      · exact nos hd
    · exact nos hd
  · exact nos hd
noncomputable def appF : List AV → Sto → Option (AV × Sto) := fun vs σ => match vs with
  | [a, v] => match fApp a v ⟨[], []⟩ σ with
    | some (u, _, σ') => some (u, σ')
    | none => none
  | _ => none
theorem fApp_loc {a v u : AV} {ρ ρ' : Loc} {σ σ' : Sto} (h : fApp a v ρ σ = some (u, ρ', σ')) (ρ₁ : Loc) : fApp a v ρ₁ σ = some (u, ρ₁, σ') ∧ ρ' = ρ := by
  unfold fApp at h ⊢
  split at h
  · split at h
    · split at h
      · split at h
        · rename_i e1 _ e2 _ _ e3; cases h; simp_all
        · exact nos h
      · exact nos h
    · exact nos h
  · exact nos h
theorem SF_app : SF W 0 (.builtin "list.append") appF := by
  intro cx O ads vs xs hv ρ σ v ρ' σ' hd s Q E S k
  refine opq fun PP oo => ?_
  dsimp only [apF] at hd
  split at hd
  · rename_i v₁ σ₁ hd'
    replace k := KK.of hd k
    dsimp only [appF] at hd'
    split at hd'
    · rename_i a u
      split at hd'
      · rename_i w ρ₂ σ₂ e
        refine oo ?_
        cases Option.some.inj hd'
        obtain ⟨x, y, rfl, ha, hu⟩ := VRs.two hv
        exact oApp ha hu _ _ _ _ _ (fApp_loc e ρ).1 s Q E S k
      · exact nos hd'
    · exact nos hd'
  · exact nos hd
end


noncomputable def relabelS (scope S : Scope) : Scope :=
  { scope with names := scope.names.map fun (n, k) => if (k == .free && S.kind == .function && S.names.lookup n == some .cell) then (n, .cell) else (n, k) }
theorem relabel_eq (scope : Scope) (env : Env) : relabel scope env = relabelS scope env.scope := rfl
theorem kindAt {cx : Cx} {S : Scope} {x : Str} {k : NameKind} (h : cx.env.scope = S) (e : S.names.lookup x = some k) : cx.env.kindOf x = some k := by
  show cx.env.scope.names.lookup x = some k
  exact h ▸ e
theorem fkAt {cx : Cx} {S : Scope} (h : cx.env.scope = S) (e : S.kind = .function) : cx.env.scope.kind = .function := by exact h ▸ e
theorem look_append {α : Type} : ∀ (l m : List (Nat × α)) (k : Nat), look (l ++ m) k = match look l k with | some v => some v | none => look m k
  | [], m, k => rfl
  | p :: r, m, k => by
    show look (p :: (r ++ m)) k = _
    have ih := look_append r m k
    by_cases h : Nat.beq p.1 k = true
    · have e1 : look (p :: (r ++ m)) k = some p.2 := by dsimp only [look]; rw [h]
      have e2 : look (p :: r) k = some p.2 := by dsimp only [look]; simp only [h]
      simp only [e1, e2]
    · have h : Nat.beq p.1 k = false := Bool.eq_false_iff.mpr h
      have e1 : look (p :: (r ++ m)) k = look (r ++ m) k := by
        simp only [look.eq_2, h]
      have e2 : look (p :: r) k = look r k := by simp only [look.eq_2, h]
      simp only [e1, e2, ih]

/-! the turns of a comprehension -/
noncomputable def compM (tgt : AV → Mo Unit) (test : Mo Bool) (body : Mo Unit) : Nat → Src → Mo Unit
  | 0, _ => bad
  | f + 1, src => fun ρ σ => match nextS σ src with
    | some (some (v, src')) => bnd (tgt v) (fun _ => bnd test fun b => match b with
      | true => bnd body fun _ => compM tgt test body f src'
      | false => compM tgt test body f src') ρ σ
    | some none => some ((), ρ, σ)
    | none => none
noncomputable def IfsT (W : Wo) (cx : Cx) (ifs : List Expr) (d : Mo Bool) : Prop := T W cx BR (forIn ifs true fun c r => if r = true then do let ok ← PySem.isTrue c cx.env (eval c cx.env); pure (ForInStep.yield ok) else pure (ForInStep.yield r)) d
section
variable {W : Wo} {cx : Cx} {n : Nat}
theorem ifs0 : IfsT W cx [] (ret true) := by
  intro ads ρ σ v ρ' σ' hd s Q E S k
  replace k := KK.of hd k
  exact wpAny_tests_nil (k ads _ s.heap s.toks (.refl _) rfl S)
theorem ifs1 {c : Expr} {d : Mo Bool} (h : TB W cx c d) : IfsT W cx [c] d := by
  intro ads ρ σ v ρ' σ' hd s Q E S k
  exact wpAny_tests_one (h ads _ _ _ _ _ hd s Q E S k)
/-- what one turn does behind its tests -/
noncomputable def BodyT (W : Wo) (cx : Cx) (t : Sem Unit) (d : Mo Unit) : Prop := T W cx UR t d
theorem comp_loop {elt : Expr} {gens : List Comprehension} {scope : Scope} {pos : Pos} {ads₀ : List Addr} {it : Addr} {depth : Nat} {target iter : Expr} {ifs : List Expr} {accv : Value} {body : Sem Unit} {tgt : AV → Mo Unit} {dt : Mo Bool} {db : Mo Unit} {R : Result → Shared → Prop} (O : Ok W n cx)
    (hturn : compTurn (.ListComp elt gens scope pos) depth (.ref it) accv cx.env = (do
      standAt iter.pos
      match ← pyNext (.ref it) with
      | none => pure (.done .next)
      | some v =>
        letOwnedTupleGo target (.ref it) v
        assign target cx.env v
        let mut ok := true
        for c in ifs do
          if ok then ok ← PySem.isTrue c cx.env (eval c cx.env)
        if ok then body
        again (.compLoop (.ListComp elt gens scope pos) depth (.ref it) accv cx.env)))
    (ht : ∀ pv, TG W (cx.wp pv) target tgt) (hi : ∀ pv, IfsT W (cx.wp pv) ifs dt) (hb : ∀ ads pv, Ext ads₀ ads → TAt W (cx.wp pv) UR ads body db) :
    ∀ (fuel : Nat) {ads : List Addr} {ρ ρ' : Loc} {σ σ' : Sto} {src : Src} {o : Obj} {u : Unit} {s : Shared}, Ext ads₀ ads → compM tgt dt db fuel src ρ σ = some (u, ρ', σ') → St W cx ads ρ σ s.heap → Apart cx ads it → SrcR W ads src o → s.heap.get? it = some o →
    (∀ ads' h' tk, Ext ads ads' → St W cx ads' ρ' σ' h' → Apart cx ads' it → R (.ok .next) { s with heap := h', toks := tk }) → codeAny (model W.prog W.w) cx.A (.compLoop (.ListComp elt gens scope pos) depth (.ref it) accv cx.env) R s := by
  intro fuel ads ρ ρ' σ σ' src o u s X₀ hd S P r ho k
  refine codeAny_loop rfl (LI W cx ads it s (compM tgt dt db) (u, ρ', σ')) ?_ fuel
    ⟨ads, ρ, σ, src, o, s.heap, s.toks, rfl, .refl _, r, ho, P, S, hd⟩
  rintro m s' ⟨ads₂, ρ₂, σ₂, src₂, o₂, h₂, tk₂, rfl, X₂, r₂, ho₂, P₂, S₂, hd₂⟩
  show wpAny _ cx.A ((compTurn (.ListComp elt gens scope pos) depth (.ref it) accv cx.env).onRaise (fun x => do noteFrame x cx.env; theTreesLotGoes x)) _ _ _
  refine wpAny_noted ?_
  rw [hturn]
  refine wpAny_bind (wpAny_standAt ?_)
  cases m with
  | zero => cases hd₂
  | succ m =>
    dsimp only [compM] at hd₂
    split at hd₂
    · rename_i a src₃ en
      refine wpAny_bind (next_T O S₂ P₂ ho₂ r₂ en fun w h₃ tk₃ N₃ => ?_)
      obtain ⟨x, o₃, rfl, rx, S₃, ho₃, r₃⟩ := N₃
      refine wpAny_bind (letOwned_T r₃ ho₃ ?_)
      refine bnd_elim hd₂ fun _ ρ₄ σ₄ e4 hd₄ => ?_
      refine bnd_elim hd₄ fun b ρ₅ σ₅ e5 hd₅ => ?_
      have SI := S₃.inn P₂ ho₃
      refine wpAny_bind (ht ((it, o₃) :: cx.pv) ads₂ a x rx _ _ _ _ _ e4 { s with heap := h₃, toks := tk₃ } _ _ SI fun ads₄ _ h₄ tk₄ X₄ _ S₄ => ?_)
      refine wpAny_bind (hi ((it, o₃) :: cx.pv) ads₄ _ _ _ _ _ e5 { s with heap := h₄, toks := tk₄ } _ _ S₄ fun ads₅ b' h₅ tk₅ X₅ r₅ S₅ => ?_)
      subst r₅
      cases b with
      | false =>
        obtain ⟨SO, ho₅, P₅⟩ := S₅.out P₂.p r₃.nf
        exact wpAny_pure ⟨rfl, m, Nat.lt_succ_self _, ads₅, ρ₅, σ₅, src₃, o₃, h₅, tk₅, rfl, X₂.trans (X₄.trans X₅), r₃.mono (X₄.trans X₅), ho₅, P₅, SO, hd₅⟩
      | true =>
        refine bnd_elim hd₅ fun _ ρ₆ σ₆ e6 hd₆ => ?_
        dsimp only [↓dreduceIte]
        refine wpAny_bind (hb ads₅ ((it, o₃) :: cx.pv) (X₀.trans (X₂.trans (X₄.trans X₅))) _ _ _ _ _ e6 { s with heap := h₅, toks := tk₅ } _ _ S₅ fun ads₆ _ h₆ tk₆ X₆ _ S₆ => ?_)
        obtain ⟨SO, ho₆, P₆⟩ := S₆.out P₂.p r₃.nf
        exact wpAny_pure ⟨rfl, m, Nat.lt_succ_self _, ads₆, ρ₆, σ₆, src₃, o₃, h₆, tk₆, rfl, X₂.trans (X₄.trans (X₅.trans X₆)), r₃.mono (X₄.trans (X₅.trans X₆)), ho₆, P₆, SO, hd₆⟩
    · rename_i en
      cases Option.some.inj hd₂
      refine wpAny_bind (next_T O S₂ P₂ ho₂ r₂ en fun w h₃ tk₃ N₃ => ?_)
      obtain ⟨rfl, S₃⟩ := N₃
      exact wpAny_pure (k ads₂ h₃ tk₃ X₂ S₃ P₂)
    · exact nos hd₂

theorem newBlockEnv {scope : Scope} {globals : Addr} {cl : List (Str × Addr)} {qual : Str} {env : Env} {cks : List Nat} {A : Around} {s : Shared} {Q : Env → Shared → Prop} {E : Value → Shared → Prop}
    (hck : ∀ h, pushCells h scope.names = pushN h cks.length) (hcc : ∀ n acc, cellsFrom n scope.names acc = consN n cks acc)
    (h : Q { scope := scope, locals := s.heap.objs.size, globals := globals, cells := consN (s.heap.objs.size + 1) cks cl, qual := qual, func := none, code := env.code, frame := env.frame, builtins := env.builtins } { s with heap := pushN (s.heap.push { cls := .type "dict", data := .dict #[] }) cks.length }) :
    wpAny (model W.prog W.w) A (newFunctionEnv scope globals cl [] qual none .none (some env)) Q E s := by
  simp only [newFunctionEnv, Option.isSome_some, if_true]
  refine wpAny_bind (wpAny_alloc ?_)
  refine wpAny_bind (wpAny_layCells _ (fun name kind cells => by cases hkc : kind == NameKind.cell <;> simp [hkc]) _ _ _ _ ?_)
  rw [show ({ s with heap := s.heap.push { cls := .type "dict", data := .dict #[] } } : Shared).heap.objs.size = s.heap.objs.size + 1 from Heap.size_push .., hcc]
  refine wpAny_bind (wpAny_of_eq (a := ⟨⟩) rfl (wpAny_pure ?_))
  rw [← hck] at h
  exact h
/-- a comprehension -/
noncomputable def dComp (fks cks : List Nat) (di : Mo Src) (loop : AV → Src → Mo Unit) : Mo AV := fun ρ σ => match di ρ σ with
  | some (src, ρ₁, σ₁) => match σ₁.new (.list []) with
    | some (ka, σ₂) => match celsOf ρ fks with
      | some l₁ => match ownCells cks σ₂ with
        | some (l₂, σ₃) => match loop (.ref ka) src ⟨[], l₂ ++ l₁⟩ σ₃ with
          | some (_, _, σ₄) => some (.ref ka, ρ₁, σ₄)
          | none => none
        | none => none
      | none => none
    | none => none
  | none => none
noncomputable def srcFwd : Src → Bool
  | .rev _ _ => false
  | _ => true
theorem comp_wp (O : Ok W n cx) {e iter : Expr} {scope : Scope} {pos : Pos} {g : Comprehension} {gs : List Comprehension} {fks cks : List Nat} {di : Mo Src} {loop : AV → Src → Mo Unit} {use : Option (Value → Sem Unit)}
    (hcl : clausesOf e = g :: gs) (hg : g.iter = iter) (hs : ∀ env x, foldedSetIterable iter env x = pure x)
    (hfn : (scope.names.filterMap fun x => if x.2 == .free then some x.1 else none) = fks.map nm) (hck : ∀ h, pushCells h scope.names = pushN h cks.length) (hcc : ∀ n acc, cellsFrom n scope.names acc = consN n cks acc)
    (hfd : fks.Nodup) (hcd : cks.Nodup) (hdj : ∀ k ∈ fks, k ∉ cks) (hfl : ∀ k ∈ fks, k < NN) (hcn : ∀ k ∈ cks, k < NN)
    (hkind : scope.kind = .function) (hnames : ∀ x ∈ scope.names, x.2 = .local → scope.names.lookup x.1 = some .local)
    (hi : TI W cx iter di)
    (hloop : ∀ cx', Ok W n cx' → cx'.env.scope = relabelS scope cx.env.scope → ∀ {ads : List Addr} {ρ ρ' : Loc} {σ σ' : Sto} {src : Src} {o : Obj} {it : Addr} {u : Unit} {s : Shared} {ka : Nat} {y : Value} {R : Result → Shared → Prop},
      loop (.ref ka) src ρ σ = some (u, ρ', σ') → VR W.q ads (.ref ka) y → St W cx' ads ρ σ s.heap → Apart cx' ads it → SrcR W ads src o → s.heap.get? it = some o →
      (∀ ads' h' tk, Ext ads ads' → St W cx' ads' ρ' σ' h' → Apart cx' ads' it → R (.ok .next) { s with heap := h', toks := tk }) → codeAny (model W.prog W.w) cx'.A (.compStart e 0 (.ref it) y cx'.env) R s)
    {ads : List Addr} {ρ ρ' : Loc} {σ σ' : Sto} {v : AV} {s : Shared} {Q : Value → Shared → Prop} {E : Value → Shared → Prop} (hd : dComp fks cks di loop ρ σ = some (v, ρ', σ')) (S : St W cx ads ρ σ s.heap)
    (k : ∀ ads' h' tk C y, Ext ads ads' → VR W.q ads' v y → St W cx ads' ρ' σ' h' → Apart cx ads' C → (∃ m, h'.Ns C m) → compPost (model W.prog W.w) cx.A E use Q y C (.ok .next) { s with heap := h', toks := tk }) :
    wpAny (model W.prog W.w) cx.A (comprehension e scope cx.env pos (newList []) false (eval iter cx.env) use) Q E s := by
  dsimp only [dComp] at hd
  split at hd
  · rename_i src ρ₁ σ₁ e1
    refine gN hd fun ka σ₂ e2 hd => ?_
    split at hd
    · rename_i l₁ e3
      split at hd
      · rename_i l₂ σ₃ e4
        split at hd
        · rename_i u ρ₄ σ₄ e5
          cases Option.some.inj hd
          have hall : ∀ k ∈ fks, ∃ a, cx.env.cells.lookup (nm k) = some a := fun k hk => by
            obtain ⟨c, ec⟩ := celsOf_all e3 k hk
            obtain ⟨a, _, ea⟩ := S.cel k c ec
            exact ⟨a, ea⟩
          refine wpAny_comprehension_free hcl (fun x => hg ▸ hs _ x) (closureFor_fr hfn hall) hkind hnames (hi _ _ _ _ _ _ e1 s _ _ S fun ads₁ it o h₁ tk₁ X₁ r₁ ho₁ P₁ S₁ => ?_)
          refine wpAny_newList ?_ (Nat.zero_le _)
          refine newBlockEnv hck hcc ?_
          dsimp only
          obtain ⟨S₂, X₂, g₂⟩ := S₁.alloc (h' := h₁.push { cls := .type "list", data := .seq ([] : List Value).toArray }) (fun b o e => Heap.get?_push_of_some _ e) (heap_fresh h₁) (Heap.get?_push_size _ rfl) (ao := .list []) ⟨[], 0, rfl, trivial⟩ e2
          generalize hH : h₁.push { cls := .type "list", data := .seq ([] : List Value).toArray } = h₂ at S₂ ⊢
          generalize hA : ads₁ ++ [h₁.objs.size] = ads₂ at S₂ X₂ g₂
          have ho₂ : h₂.get? it = some o := hH ▸ Heap.get?_push_of_some _ ho₁
          have P₂ : Apart cx ads₂ it := ⟨P₁.n, fun q => by
            rw [← hA] at q
            rcases List.mem_append.mp q with q | q
            · exact P₁.m q
            · simp at q; exact absurd (Heap.lt_size ho₁) (by exact (q) ▸ Nat.lt_irrefl _), P₁.b, P₁.p⟩
          have hN : cx.N ∉ it :: ads₂ := fun q => by
            rcases List.mem_cons.mp q with q | q
            · exact P₂.n q.symm
            · exact (S₂.new _ q).1 rfl
          have hbs : ∀ a ∈ it :: ads₂, cx.base.get? a = none := fun a q => by
            rcases List.mem_cons.mp q with q | q
            · exact q ▸ P₂.b
            · exact (S₂.new _ q).2.1
          have hpv : ∀ p ∈ cx.al, p.1 ∉ it :: ads₂ := fun p hp q => by
            rcases List.mem_cons.mp q with q | q
            · exact P₂.p p hp q
            · exact (S₂.pv p hp).2.2.1 q
          have hCn : ∀ b o, h₂.get? b = some o → b ≠ h₂.objs.size := fun b o e => Nat.ne_of_lt (Heap.lt_size e)
          let cenv : Env := { scope := relabel scope cx.env, locals := h₂.objs.size, globals := cx.env.globals, cells := consN (h₂.objs.size + 1) cks (frN cx.env.cells fks []), qual := cx.env.qual, func := none, code := cx.env.code, frame := cx.env.frame, builtins := cx.env.builtins }
          let cx' : Cx := ⟨cx.A, hideAll h₂ (it :: ads₂), h₂.objs.size, cenv, [], []⟩
          have S₃ : St W (cx'.wp [(it, o)]) ads₂ ⟨[], []⟩ σ₂ (h₂.push { cls := .type "dict", data := .dict #[] }) := by
            refine ⟨⟨_, ⟨Heap.Ns.new h₂ (.type "dict"), fun b o e => Heap.get?_push_of_some _ (of_hideAll _ e), Nat.le_of_eq (hideAll_size _ _)⟩, (fun k v e => by cases e)⟩, (fun k c e => by cases e), S₂.nd, S₂.len, fun a ha => ?_, fun k ao e => ?_, fun p hp => ?_⟩
            · obtain ⟨_, _, o', e⟩ := S₂.new a ha
              exact ⟨hCn _ _ e, hideAll_none _ (List.mem_cons_of_mem _ ha), o', Heap.get?_push_of_some _ e⟩
            · obtain ⟨a, o', e1, e2, e3⟩ := S₂.obj k ao e
              exact ⟨a, o', e1, Heap.get?_push_of_some _ e2, e3⟩
            · obtain rfl := List.mem_singleton.mp hp
              exact ⟨⟨_, Heap.get?_push_of_some _ ho₂, .inl rfl⟩, hCn _ _ ho₂, P₂.m, hideAll_none _ (List.mem_cons_self ..)⟩
          obtain ⟨ads₃, X₃, S₄, hl₂⟩ := cells_T S₃ e4 hcd hcn
          rw [Heap.size_push] at hl₂
          have S₅ : St W (cx'.wp [(it, o)]) ads₃ ⟨[], l₂ ++ l₁⟩ σ₃ (pushN (h₂.push { cls := .type "dict", data := .dict #[] }) cks.length) := by
            refine ⟨S₄.fr, fun j c e => ?_, S₄.nd, S₄.len, S₄.new, S₄.obj, S₄.pv⟩
            rw [look_append] at e
            split at e
            · rename_i c' e'
              cases Option.some.inj e
              obtain ⟨_, a, i2, i3⟩ := hl₂ j c e'
              exact ⟨a, i2, i3 _⟩
            · obtain ⟨j1, j2⟩ := celsOf_look e3 e
              obtain ⟨a, i1, i2⟩ := S.cel j c j2
              refine ⟨a, X₃.get (X₂.get (X₁.get i1)), ?_⟩
              show (consN (h₂.objs.size + 1) cks (frN cx.env.cells fks [])).lookup (nm j) = some a
              rw [consN_out (hfl j j1) cks _ _ hcn (hdj j j1), frN_in (hfl j j1) fks _ hfl hfd j1, i2]; rfl
          obtain ⟨S₆, ho₆, P₆⟩ := S₅.out (cx := cx') (fun q hq => nomatch hq) r₁.nf
          have O' : Ok W n cx' := O.block S₂ hN hbs (fun p hp => hpv p (List.mem_append_right _ hp)) [] rfl hkind O.gl O.bi
          refine hloop cx' O' (relabel_eq _ _) e5 ⟨_, X₃.get g₂, rfl⟩ (s := { s with heap := pushN (h₂.push { cls := .type "dict", data := .dict #[] }) cks.length, toks := tk₁ }) S₆ P₆ (r₁.mono (X₂.trans X₃)) ho₆ fun ads' h' tk X S' P' => ?_
          obtain ⟨m', F', _⟩ := S'.open
          have SB : St W cx ads' ρ' σ' h' := S₂.backG hN hbs hpv rfl S' (X₃.trans X)
          obtain ⟨mm, F₂, _⟩ := S₂.open
          obtain ⟨oN, _, _, hNo, _⟩ := F₂.ns
          refine k ads' h' tk h₂.objs.size _ (X₁.trans (X₂.trans (X₃.trans X))) ⟨_, X.get (X₃.get g₂), rfl⟩ SB ⟨Ne.symm (hCn _ _ hNo), fun q => (S'.new _ q).1 rfl, ?_, fun p hp => hCn _ _ (S₂.pv p hp).1.choose_spec.1⟩ ⟨m', F'.ns⟩
          cases q : cx.base.get? h₂.objs.size with
          | none => rfl
          | some o' => exact absurd rfl (hCn _ _ (F₂.keep _ _ q))
        · exact nos hd
      · exact nos hd
    · exact nos hd
  · exact nos hd

theorem ite_both {c : Prop} [Decidable c] {p q : Prop} (hp : p) (hq : q) : if c then p else q := by
  by_cases h : c
  · rw [if_pos h]; exact hp
  · rw [if_neg h]; exact hq
theorem compStart_at {elt : Expr} {gens : List Comprehension} {scope : Scope} {pos : Pos} {g : Comprehension} {depth : Nat} {it acc : Value} {env : Env} {A : Around} {s : Shared} {R : Result → Shared → Prop} (hg : gens[depth]? = some g) (ha : g.is_async = 0)
    (h0 : codeAny (model W.prog W.w) A (.compLoop (.ListComp elt gens scope pos) depth it acc env) R s)
    (h : wpAny (model W.prog W.w) A (pyIter it) (fun it' s' => codeAny (model W.prog W.w) A (.compLoop (.ListComp elt gens scope pos) depth it' acc env) R s')
      (notedBy (model W.prog W.w) A env fun x s' => R (.error x) s') s) :
    codeAny (model W.prog W.w) A (.compStart (.ListComp elt gens scope pos) depth it acc env) R s := by
  refine codeAny_of_tree ?_
  show wpAny _ A ((compStart (.ListComp elt gens scope pos) depth it acc env).onRaise (fun x => do noteFrame x env; standAt theWindowsPlace)) _ _ s
  refine wpAny_notedAt ?_
  dsimp only [compStart]
  have e1 : (clausesOf (.ListComp elt gens scope pos))[depth]? = some g := hg
  rw [e1, Option.elim_some, ha]
  rw [if_neg (by decide)]
  refine wpAny_bind (wpAny_askSetting (wpAny_ite (ite_both ?_ ?_)))
  · exact wpAny_pure (And.intro rfl h0)
  · refine wpAny_bind (wpAny_rule ?_)
    exact wpAny_bind (wpAny_standAt (wpAny_bind (wpAny_mono h (fun it' s' h' => wpAny_pure (And.intro rfl h')) fun _ _ x => x)))
noncomputable def lp1 (tgt : AV → Mo Unit) (dt : Mo Bool) (de : Mo AV) (fuel : Nat) (acc : AV) (src : Src) : Mo Unit := match srcFwd src with
  | true => compM tgt dt (bnd de fun v => bnd (fApp acc v) fun _ => ret ()) fuel src
  | false => bad
theorem emit_T {elt : Expr} {de : Mo AV} {acc : AV} {y : Value} {ads₀ : List Addr} (he : ∀ pv, TE W (cx.wp pv) elt de) (hy : VR W.q ads₀ acc y) (ads : List Addr) (pv : List (Addr × Obj)) (X : Ext ads₀ ads) :
    TAt W (cx.wp pv) UR ads (do let _ ← call (.builtin "list.append") [y, ← eval elt cx.env]) (bnd de fun v => bnd (fApp acc v) fun _ => ret ()) := by
  intro ρ σ v ρ' σ' hd s Q E S k
  refine bnd_elim hd fun a ρ₁ σ₁ e1 hd => ?_
  refine bnd_elim hd fun b ρ₂ σ₂ e2 hd => ?_
  replace k := KK.of hd k
  refine wpAny_bind (he pv _ _ _ _ _ _ e1 s _ _ S fun ads₁ x h₁ tk₁ X₁ r₁ S₁ => ?_)
  refine wpAny_bind (oApp (VR.mono (X.trans X₁) hy) r₁ _ _ _ _ _ e2 _ _ _ S₁ fun ads₂ z h₂ tk₂ X₂ r₂ S₂ => ?_)
  exact wpAny_pure (k ads₂ _ h₂ tk₂ (X₁.trans X₂) trivial S₂)
theorem loop1 (O : Ok W n cx) {elt target iter : Expr} {ifs : List Expr} {scope : Scope} {pos : Pos} {tgt : AV → Mo Unit} {dt : Mo Bool} {de : Mo AV} (fuel : Nat)
    (ht : ∀ pv, TG W (cx.wp pv) target tgt) (hi : ∀ pv, IfsT W (cx.wp pv) ifs dt) (he : ∀ pv, TE W (cx.wp pv) elt de)
    {ads : List Addr} {ρ ρ' : Loc} {σ σ' : Sto} {src : Src} {o : Obj} {it : Addr} {u : Unit} {s : Shared} {ka : Nat} {y : Value} {R : Result → Shared → Prop}
    (hd : lp1 tgt dt de fuel (.ref ka) src ρ σ = some (u, ρ', σ')) (hy : VR W.q ads (.ref ka) y) (S : St W cx ads ρ σ s.heap) (P : Apart cx ads it) (r : SrcR W ads src o) (ho : s.heap.get? it = some o)
    (k : ∀ ads' h' tk, Ext ads ads' → St W cx ads' ρ' σ' h' → Apart cx ads' it → R (.ok .next) { s with heap := h', toks := tk }) :
    codeAny (model W.prog W.w) cx.A (.compStart (.ListComp elt [⟨target, iter, ifs, 0⟩] scope pos) 0 (.ref it) y cx.env) R s := by
  cases hf : srcFwd src with
  | true =>
    simp only [lp1, hf] at hd
    have main : codeAny (model W.prog W.w) cx.A (.compLoop (.ListComp elt [⟨target, iter, ifs, 0⟩] scope pos) 0 (.ref it) y cx.env) R s :=
      comp_loop (ads₀ := ads) O (compTurn_list elt target iter ifs scope pos (.ref it) y cx.env) ht hi (fun ads' pv X => emit_T he hy ads' pv X) fuel (.refl _) hd S P r ho k
    exact compStart_at rfl rfl main (pyIter_src r ho (by cases src <;> first | trivial | cases hf) main)
  | false =>
    simp only [lp1, hf] at hd
    exact nos hd
/-- a comprehension of one clause -/
theorem sComp (O : Ok W n cx) {elt target iter : Expr} {ifs : List Expr} {scope : Scope} {pos : Pos} {di : Mo Src} {tgt : AV → Mo Unit} {dt : Mo Bool} {de : Mo AV} (fks cks : List Nat) (fuel : Nat) (hi : TI W cx iter di)
    (ht : ∀ cx', Ok W n cx' → cx'.env.scope = relabelS scope cx.env.scope → TG W cx' target tgt) (hf : ∀ cx', Ok W n cx' → cx'.env.scope = relabelS scope cx.env.scope → IfsT W cx' ifs dt) (he : ∀ cx', Ok W n cx' → cx'.env.scope = relabelS scope cx.env.scope → TE W cx' elt de)
    (hfn : (scope.names.filterMap fun x => if x.2 == .free then some x.1 else none) = fks.map nm) (hck : ∀ h, pushCells h scope.names = pushN h cks.length) (hcc : ∀ n acc, cellsFrom n scope.names acc = consN n cks acc)
    (hlit : fks.Nodup ∧ cks.Nodup ∧ (∀ k ∈ fks, k ∉ cks) ∧ (∀ k ∈ fks, k < NN) ∧ (∀ k ∈ cks, k < NN))
    (hkind : scope.kind = .function) (hnames : ∀ x ∈ scope.names, x.2 = .local → scope.names.lookup x.1 = some .local) (hs : ∀ env x, foldedSetIterable iter env x = pure x := by intro _ _; rfl) :
    TE W cx (.ListComp elt [⟨target, iter, ifs, 0⟩] scope pos) (dComp fks cks di (lp1 tgt dt de fuel)) := by
  intro ads ρ σ v ρ' σ' hd s Q E S k
  simp only [eval_ListComp]
  refine comp_wp (e := .ListComp elt [⟨target, iter, ifs, 0⟩] scope pos) (iter := iter) (g := ⟨target, iter, ifs, 0⟩) (gs := []) (use := none) O rfl rfl hs hfn hck hcc hlit.1 hlit.2.1 hlit.2.2.1 hlit.2.2.2.1 hlit.2.2.2.2 hkind hnames hi (fun cx' O' hsc {ads ρ ρ' σ σ' src o it u s ka y R} hd hy S P r ho k => ?_) hd S fun ads' h' tk C y X r S' P hn => ?_
  · exact loop1 O' fuel (fun pv => ht _ (O'.wp pv) hsc) (fun pv => hf _ (O'.wp pv) hsc) (fun pv => he _ (O'.wp pv) hsc) hd hy S P r ho k
  · obtain ⟨m, hm⟩ := hn
    exact ⟨m, hm, fun h'' hs => k ads' y h'' tk X r (S'.other P hs.extBut)⟩
/-- x = [..], x a local -/
theorem sAsgComp (O : Ok W n cx) {elt target iter : Expr} {ifs : List Expr} {scope : Scope} {pos tp sp : Pos} {x : Str} {di : Mo Src} {tgt : AV → Mo Unit} {dt : Mo Bool} {de : Mo AV} (i : Nat) (fks cks : List Nat) (fuel : Nat) (hi : TI W cx iter di)
    (ht : ∀ cx', Ok W n cx' → cx'.env.scope = relabelS scope cx.env.scope → TG W cx' target tgt) (hf : ∀ cx', Ok W n cx' → cx'.env.scope = relabelS scope cx.env.scope → IfsT W cx' ifs dt) (he : ∀ cx', Ok W n cx' → cx'.env.scope = relabelS scope cx.env.scope → TE W cx' elt de)
    (hx : nm i = x) (hl : i < NN) (hk : cx.env.kindOf x = some .local) (hsw : swapsWith (.ListComp elt [⟨target, iter, ifs, 0⟩] scope pos) (some (.Name x tp)) sp.line cx.env = pure true)
    (hfn : (scope.names.filterMap fun x => if x.2 == .free then some x.1 else none) = fks.map nm) (hck : ∀ h, pushCells h scope.names = pushN h cks.length) (hcc : ∀ n acc, cellsFrom n scope.names acc = consN n cks acc)
    (hlit : fks.Nodup ∧ cks.Nodup ∧ (∀ k ∈ fks, k ∉ cks) ∧ (∀ k ∈ fks, k < NN) ∧ (∀ k ∈ cks, k < NN))
    (hkind : scope.kind = .function) (hnames : ∀ x ∈ scope.names, x.2 = .local → scope.names.lookup x.1 = some .local) (hs : ∀ env x, foldedSetIterable iter env x = pure x := by intro _ _; rfl) :
    TS W cx (.Assign [.Name x tp] (.ListComp elt [⟨target, iter, ifs, 0⟩] scope pos) sp) (bnd (dComp fks cks di (lp1 tgt dt de fuel)) fun v => bnd (putL i v) fun _ => ret .next) := by
  intro ads ρ σ v ρ' σ' hd s Q E S k
  refine bnd_elim hd fun a ρ₁ σ₁ e1 hd => ?_
  refine bnd_elim hd fun u ρ₂ σ₂ e2 hd => ?_
  replace k := KK.of hd k
  simp only [exec_Assign_Name_used _ _ _ _ hsw]
  refine wpAny_bind (wpAny_standAt (wpAny_bind ?_))
  show wpAny _ cx.A (do let _ ← comprehension (.ListComp elt [⟨target, iter, ifs, 0⟩] scope pos) scope cx.env _ (newList []) false (eval iter cx.env) (some (assign (.Name x tp) cx.env))) _ _ s
  refine wpAny_bind (comp_wp (e := .ListComp elt [⟨target, iter, ifs, 0⟩] scope pos) (iter := iter) (g := ⟨target, iter, ifs, 0⟩) (gs := []) (use := some (assign (.Name x tp) cx.env)) (Q := fun _ s' => wpAny (model W.prog W.w) cx.A (pure ()) (fun _ s'' => wpAny (model W.prog W.w) cx.A (pure Flow.next) Q E s'') E s') O rfl rfl hs hfn hck hcc hlit.1 hlit.2.1 hlit.2.2.1 hlit.2.2.2.1 hlit.2.2.2.2 hkind hnames hi (fun cx' O' hsc {ads ρ ρ' σ σ' src o it u s ka y R} hd hy S P r ho k => ?_) e1 S fun ads' h' tk C y X r S' P hn => ?_)
  · exact loop1 O' fuel (fun pv => ht _ (O'.wp pv) hsc) (fun pv => hf _ (O'.wp pv) hsc) (fun pv => he _ (O'.wp pv) hsc) hd hy S P r ho k
  · obtain ⟨m, hm⟩ := hn
    obtain ⟨oC, es, ep, hC, hr⟩ := hm
    have SI := S'.inn P hC
    refine tLoc (O.wp ((C, oC) :: cx.pv)) i hx hk hl ads' a y r _ _ _ _ _ e2 { s with heap := h', toks := tk } _ _ SI fun ads₂ _ h₂ tk₂ X₂ _ S₂ => ?_
    obtain ⟨SO, ⟨oC₂, hC₂, hfz⟩, P₂⟩ := S₂.outP P.p
    have hr₂ : oC₂.data = oC.data := by rcases hfz with rfl | ⟨_, sl, rfl⟩ <;> rfl
    refine ⟨m, ⟨oC₂, es, ep, hC₂, hr₂.trans hr.1, hr.2⟩, fun h'' hs => wpAny_pure (wpAny_pure ?_)⟩
    exact k ads₂ _ h'' tk₂ (X.trans X₂) rfl (SO.other P₂ hs.extBut)
end

section
variable {W : Wo} {cx : Cx} {n : Nat}
noncomputable def lp2 (tgt0 : AV → Mo Unit) (di1 : Mo Src) (tgt1 : AV → Mo Unit) (de : Mo AV) (fuel : Nat) (acc : AV) (src : Src) : Mo Unit := match srcFwd src with
  | true => compM tgt0 (ret true) (bnd di1 fun src1 => lp1 tgt1 (ret true) de fuel acc src1) fuel src
  | false => bad
theorem turn2a (elt target iter target1 iter1 : Expr) (scope : Scope) (pos : Pos) (it acc : Value) (env : Env) :
    compTurn (.ListComp elt [⟨target, iter, [], 0⟩, ⟨target1, iter1, [], 0⟩] scope pos) 0 it acc env = (do
      standAt iter.pos
      match ← pyNext it with
      | none => pure (.done .next)
      | some v =>
        letOwnedTupleGo target it v
        assign target env v
        let mut ok := true
        for c in ([] : List Expr) do
          if ok then ok ← PySem.isTrue c env (eval c env)
        if ok then (do
          let x ← eval iter1 env
          standAt iter1.pos
          let x ← foldedSetIterable iter1 env x
          let _ ← runOwn (.compStart (.ListComp elt [⟨target, iter, [], 0⟩, ⟨target1, iter1, [], 0⟩] scope pos) 1 (← holding [x] (pyIter x)) acc env) env)
        again (.compLoop (.ListComp elt [⟨target, iter, [], 0⟩, ⟨target1, iter1, [], 0⟩] scope pos) 0 it acc env)) := by
  have h : compTurn (.ListComp elt [⟨target, iter, [], 0⟩, ⟨target1, iter1, [], 0⟩] scope pos) 0 it acc env = (do
      standAt iter.pos
      match ← pyNext it with
      | none => pure (.done .next)
      | some v =>
        letOwnedTupleGo target it v
        assign target env v
        let mut ok := true
        for c in ([] : List Expr) do
          if ok then ok ← PySem.isTrue c env (eval c env)
        if ok then do
          let x ← eval iter1 env
          standAt iter1.pos
          let x ← foldedSetIterable iter1 env x
          let _ ← runOwn (.compStart (.ListComp elt [⟨target, iter, [], 0⟩, ⟨target1, iter1, [], 0⟩] scope pos) 1 (← holding [x] (pyIter x)) acc env) env
          again (.compLoop (.ListComp elt [⟨target, iter, [], 0⟩, ⟨target1, iter1, [], 0⟩] scope pos) 0 it acc env)
        else again (.compLoop (.ListComp elt [⟨target, iter, [], 0⟩, ⟨target1, iter1, [], 0⟩] scope pos) 0 it acc env)) := by rfl
  simp only [h]
  simp only [bind_assoc, pure_bind]
theorem turn2b (elt target iter target1 iter1 : Expr) (scope : Scope) (pos : Pos) (it acc : Value) (env : Env) :
    compTurn (.ListComp elt [⟨target, iter, [], 0⟩, ⟨target1, iter1, [], 0⟩] scope pos) 1 it acc env = (do
      standAt iter1.pos
      match ← pyNext it with
      | none => pure (.done .next)
      | some v =>
        letOwnedTupleGo target1 it v
        assign target1 env v
        let mut ok := true
        for c in ([] : List Expr) do
          if ok then ok ← PySem.isTrue c env (eval c env)
        if ok then (do let _ ← call (.builtin "list.append") [acc, ← eval elt env])
        again (.compLoop (.ListComp elt [⟨target, iter, [], 0⟩, ⟨target1, iter1, [], 0⟩] scope pos) 1 it acc env)) := by rfl
theorem loop2 (O : Ok W n cx) {elt target iter target1 iter1 : Expr} {scope : Scope} {pos : Pos} {tgt tgt1 : AV → Mo Unit} {di1 : Mo Src} {de : Mo AV} (fuel : Nat)
    (ht : ∀ pv, TG W (cx.wp pv) target tgt) (hi1 : ∀ pv, TI W (cx.wp pv) iter1 di1) (ht1 : ∀ pv, TG W (cx.wp pv) target1 tgt1) (he : ∀ pv, TE W (cx.wp pv) elt de) (hs1 : ∀ env x, foldedSetIterable iter1 env x = pure x)
    {ads : List Addr} {ρ ρ' : Loc} {σ σ' : Sto} {src : Src} {o : Obj} {it : Addr} {u : Unit} {s : Shared} {ka : Nat} {y : Value} {R : Result → Shared → Prop}
    (hd : lp2 tgt di1 tgt1 de fuel (.ref ka) src ρ σ = some (u, ρ', σ')) (hy : VR W.q ads (.ref ka) y) (S : St W cx ads ρ σ s.heap) (P : Apart cx ads it) (r : SrcR W ads src o) (ho : s.heap.get? it = some o)
    (k : ∀ ads' h' tk, Ext ads ads' → St W cx ads' ρ' σ' h' → Apart cx ads' it → R (.ok .next) { s with heap := h', toks := tk }) :
    codeAny (model W.prog W.w) cx.A (.compStart (.ListComp elt [⟨target, iter, [], 0⟩, ⟨target1, iter1, [], 0⟩] scope pos) 0 (.ref it) y cx.env) R s := by
  cases hf : srcFwd src with
  | true =>
    simp only [lp2, hf] at hd
    have main : codeAny (model W.prog W.w) cx.A (.compLoop (.ListComp elt [⟨target, iter, [], 0⟩, ⟨target1, iter1, [], 0⟩] scope pos) 0 (.ref it) y cx.env) R s := by
      refine comp_loop (ads₀ := ads) O (turn2a elt target iter target1 iter1 scope pos (.ref it) y cx.env) ht (fun pv => ifs0) (fun ads₁ pv X₀ => ?_) fuel (.refl _) hd S P r ho k
      intro ρ₁ σ₁ a ρ₂ σ₂ hd₁ s₁ Q₁ E₁ S₁ k₁
      refine bnd_elim hd₁ fun src1 ρ₃ σ₃ e3 hd₁ => ?_
      refine wpAny_bind (wpAny_mono (hi1 pv _ _ _ _ _ _ e3 s₁ (fun itv s₂ => wpAny (model W.prog W.w) (cx.wp pv).A (do let _ ← runOwn (.compStart (.ListComp elt [⟨target, iter, [], 0⟩, ⟨target1, iter1, [], 0⟩] scope pos) 1 itv y cx.env) cx.env; pure ()) Q₁ E₁ s₂) E₁ S₁ fun ads₂ it₁ o₁ h₂ tk₂ X₂ r₂ ho₂ P₂ S₂ => ?_)
        (fun x s₂ h₂ => wpAny_bind (wpAny_standAt (wpAny_bind (wpAny_of_eq (hs1 _ x) (wpAny_bind (wpAny_holding h₂)))))) fun _ _ x => x)
      refine wpAny_bind (wpAny_runOwn ?_)
      cases hf1 : srcFwd src1 with
      | true =>
        simp only [lp1, hf1] at hd₁
        have main1 : codeAny (model W.prog W.w) (cx.wp pv).A (.compLoop (.ListComp elt [⟨target, iter, [], 0⟩, ⟨target1, iter1, [], 0⟩] scope pos) 1 (.ref it₁) y (cx.wp pv).env) (fun r s' => match r with | .ok f => wpAny (model W.prog W.w) (cx.wp pv).A (pure ()) Q₁ E₁ s' | .error e => cameBackBy (model W.prog W.w) (cx.wp pv).A cx.env E₁ e s') { s₁ with heap := h₂, toks := tk₂ } :=
          comp_loop (cx := cx.wp pv) (ads₀ := ads₂) (O.wp pv) (turn2b elt target iter target1 iter1 scope pos (.ref it₁) y cx.env) (fun p => ht1 p) (fun p => ifs0) (fun ads' p X => emit_T (cx := cx.wp pv) (fun p => he p) (VR.mono (X₀.trans X₂) hy) ads' p X) fuel (.refl _) hd₁ S₂ P₂ r₂ ho₂ fun ads' h' tk X S' P' => wpAny_pure (k₁ ads' () h' tk (X₂.trans X) trivial S')
        exact compStart_at rfl rfl main1 (pyIter_src r₂ ho₂ (by cases src1 <;> first | trivial | cases hf1) main1)
      | false =>
        simp only [lp1, hf1] at hd₁
        exact nos hd₁
    exact compStart_at rfl rfl main (pyIter_src r ho (by cases src <;> first | trivial | cases hf) main)
  | false =>
    simp only [lp2, hf] at hd
    exact nos hd
/-- a comprehension of two clauses, no tests -/
theorem sComp2 (O : Ok W n cx) {elt target iter target1 iter1 : Expr} {scope : Scope} {pos : Pos} {di di1 : Mo Src} {tgt tgt1 : AV → Mo Unit} {de : Mo AV} (fks cks : List Nat) (fuel : Nat) (hi : TI W cx iter di)
    (ht : ∀ cx', Ok W n cx' → cx'.env.scope = relabelS scope cx.env.scope → TG W cx' target tgt) (hi1 : ∀ cx', Ok W n cx' → cx'.env.scope = relabelS scope cx.env.scope → TI W cx' iter1 di1) (ht1 : ∀ cx', Ok W n cx' → cx'.env.scope = relabelS scope cx.env.scope → TG W cx' target1 tgt1) (he : ∀ cx', Ok W n cx' → cx'.env.scope = relabelS scope cx.env.scope → TE W cx' elt de)
    (hfn : (scope.names.filterMap fun x => if x.2 == .free then some x.1 else none) = fks.map nm) (hck : ∀ h, pushCells h scope.names = pushN h cks.length) (hcc : ∀ n acc, cellsFrom n scope.names acc = consN n cks acc)
    (hlit : fks.Nodup ∧ cks.Nodup ∧ (∀ k ∈ fks, k ∉ cks) ∧ (∀ k ∈ fks, k < NN) ∧ (∀ k ∈ cks, k < NN))
    (hkind : scope.kind = .function) (hnames : ∀ x ∈ scope.names, x.2 = .local → scope.names.lookup x.1 = some .local) (hs : ∀ env x, foldedSetIterable iter env x = pure x := by intro _ _; rfl) (hs1 : ∀ env x, foldedSetIterable iter1 env x = pure x := by intro _ _; rfl) :
    TE W cx (.ListComp elt [⟨target, iter, [], 0⟩, ⟨target1, iter1, [], 0⟩] scope pos) (dComp fks cks di (lp2 tgt di1 tgt1 de fuel)) := by
  intro ads ρ σ v ρ' σ' hd s Q E S k
  simp only [eval_ListComp]
  refine comp_wp (e := .ListComp elt [⟨target, iter, [], 0⟩, ⟨target1, iter1, [], 0⟩] scope pos) (iter := iter) (g := ⟨target, iter, [], 0⟩) (gs := [⟨target1, iter1, [], 0⟩]) (use := none) O rfl rfl hs hfn hck hcc hlit.1 hlit.2.1 hlit.2.2.1 hlit.2.2.2.1 hlit.2.2.2.2 hkind hnames hi (fun cx' O' hsc {ads ρ ρ' σ σ' src o it u s ka y R} hd hy S P r ho k => ?_) hd S fun ads' h' tk C y X r S' P hn => ?_
  · exact loop2 O' fuel (fun pv => ht _ (O'.wp pv) hsc) (fun pv => hi1 _ (O'.wp pv) hsc) (fun pv => ht1 _ (O'.wp pv) hsc) (fun pv => he _ (O'.wp pv) hsc) hs1 hd hy S P r ho k
  · obtain ⟨m, hm⟩ := hn
    exact ⟨m, hm, fun h'' hs => k ads' y h'' tk X r (S'.other P hs.extBut)⟩
end

section
variable {W : Wo} {cx : Cx} {n : Nat}
noncomputable abbrev Ct1 (W : Wo) (n : Nat) (f : Value) (g : AV → Sto → Option (AV × Sto)) : Prop := ∀ cx, Ok W n cx → ∀ ads a x, VR W.q ads a x → ∀ ρ σ v σ', g a σ = some (v, σ') → ∀ (s : Shared) (Q : Value → Shared → Prop) (E : Value → Shared → Prop), St W cx ads ρ σ s.heap →
  (∀ ads' b h' tk, Ext ads ads' → VR W.q ads' v b → St W cx ads' ρ σ' h' → Q b { s with heap := h', toks := tk }) → wpAny (model W.prog W.w) cx.A (call f [x]) Q E s
noncomputable abbrev Ct2 (W : Wo) (n : Nat) (f : Value) (g : AV → AV → Sto → Option (AV × Sto)) : Prop := ∀ cx, Ok W n cx → ∀ ads a x b y, VR W.q ads a x → VR W.q ads b y → ∀ ρ σ v σ', g a b σ = some (v, σ') → ∀ (s : Shared) (Q : Value → Shared → Prop) (E : Value → Shared → Prop), St W cx ads ρ σ s.heap →
  (∀ ads' b h' tk, Ext ads ads' → VR W.q ads' v b → St W cx ads' ρ σ' h' → Q b { s with heap := h', toks := tk }) → wpAny (model W.prog W.w) cx.A (call f [x, y]) Q E s
noncomputable def f1 (g : AV → Sto → Option (AV × Sto)) : List AV → Sto → Option (AV × Sto)
  | [a], σ => g a σ
  | _, _ => none
noncomputable def f2 (g : AV → AV → Sto → Option (AV × Sto)) : List AV → Sto → Option (AV × Sto)
  | [a, b], σ => g a b σ
  | _, _ => none
noncomputable def f12 (g : AV → Sto → Option (AV × Sto)) (g2 : AV → AV → Sto → Option (AV × Sto)) : List AV → Sto → Option (AV × Sto)
  | [a], σ => g a σ
  | [a, b], σ => g2 a b σ
  | _, _ => none
theorem SF12 {f : Value} {g : AV → Sto → Option (AV × Sto)} {g2 : AV → AV → Sto → Option (AV × Sto)} (h : Ct1 W n f g) (h2 : Ct2 W n f g2) : SF W n f (f12 g g2) := by
  intro cx O ads vs xs hv ρ σ v ρ' σ' hd s Q E S k
  unfold apF at hd
  split at hd
  · rename_i v₁ σ₁ hd'
    replace k := KK.of hd k
    dsimp only [f12] at hd'
    split at hd'
    · obtain ⟨x, rfl, ha⟩ := VRs.one hv
      exact h cx O ads _ x ha ρ σ _ _ hd' s Q E S k
    · obtain ⟨x, y, rfl, ha, hb⟩ := VRs.two hv
      exact h2 cx O ads _ x _ y ha hb ρ σ _ _ hd' s Q E S k
    · exact nos hd'
  · exact nos hd
theorem SF1 {f : Value} {g : AV → Sto → Option (AV × Sto)} (h : Ct1 W n f g) : SF W n f (f1 g) := by
  intro cx O ads vs xs hv ρ σ v ρ' σ' hd s Q E S k
  unfold apF at hd
  split at hd
  · rename_i v₁ σ₁ hd'
    replace k := KK.of hd k
    dsimp only [f1] at hd'
    split at hd'
    · obtain ⟨x, rfl, ha⟩ := VRs.one hv
      exact h cx O ads _ x ha ρ σ _ _ hd' s Q E S k
    · exact nos hd'
  · exact nos hd
theorem SF2 {f : Value} {g : AV → AV → Sto → Option (AV × Sto)} (h : Ct2 W n f g) : SF W n f (f2 g) := by
  intro cx O ads vs xs hv ρ σ v ρ' σ' hd s Q E S k
  unfold apF at hd
  split at hd
  · rename_i v₁ σ₁ hd'
    replace k := KK.of hd k
    dsimp only [f2] at hd'
    split at hd'
    · obtain ⟨x, y, rfl, ha, hb⟩ := VRs.two hv
      exact h cx O ads _ x _ y ha hb ρ σ _ _ hd' s Q E S k
    · exact nos hd'
  · exact nos hd
noncomputable def int0 (n : Nat) : AV := .lin 0 n
theorem int0_VR {q : Int} {ads : List Addr} {i : Int} {t : Tok} : VR q ads (.lin 0 i) (.int i t) := ⟨t, by rw [Int.zero_mul, Int.zero_add]⟩
/-- len -/
noncomputable def gLen (a : AV) (σ : Sto) : Option (AV × Sto) := match a with
  | .str l => match Nat.ble l.length 1000000 with
    | true => some (int0 l.length, σ)
    | false => none
  | .ref k => match σ.get k with
    | some (.list l) => match Nat.ble l.length 1000000 with
      | true => some (int0 l.length, σ)
      | false => none
    | some (.tup l) => match Nat.ble l.length 1000000 with
      | true => some (int0 l.length, σ)
      | false => none
    | _ => none
  | _ => none
theorem cLen (n : Nat) : Ct1 W n (.builtin "len") gLen := by
  intro cx O ads a x hv ρ σ v σ' hd s Q E S k
  unfold gLen at hd
  split at hd
  · split at hd
    · rename_i l hl
      cases hd
      obtain ⟨t, hqq⟩ := hv; subst hqq
      have := Nat.le_of_ble_eq_true hl
      refine PyProof.Rows.len_str (by rw [strN_len]; lia) ?_
      rw [strN_len]
      exact k ads _ s.heap _ (.refl _) int0_VR S
    · exact nos hd
  · split at hd
    · rename_i l e
      refine gB hd fun hl hd => ?_
      cases hd
      obtain ⟨p, o, rfl, ep, ho, vs, m, rfl, rv⟩ := S.at hv e
      have := Nat.le_of_ble_eq_true hl
      have hlen := VRs.length rv
      refine PyProof.Rows.len_list (items := vs.toArray) ⟨_, ho, rfl, _, rfl⟩ (by simp; lia) ?_
      exact k ads _ s.heap _ (.refl _) (by rw [show (vs.toArray.size : Nat) = l.length by simp [hlen]]; exact int0_VR) S
    · rename_i l e
      refine gB hd fun hl hd => ?_
      cases hd
      obtain ⟨p, o, rfl, ep, ho, vs, m, rfl, rv⟩ := S.at hv e
      have := Nat.le_of_ble_eq_true hl
      have hlen := VRs.length rv
      refine PyProof.Rows.len_tuple (items := vs.toArray) ⟨_, ho, rfl, _, rfl⟩ (by simp; lia) ?_
      exact k ads _ s.heap _ (.refl _) (by rw [show (vs.toArray.size : Nat) = l.length by simp [hlen]]; exact int0_VR) S
    · exact nos hd
  · exact nos hd
/-- range -/
noncomputable def subN (a b : Int) : Option Nat := match b - a with
  | .ofNat n => some n
  | .negSucc _ => none
theorem subN_is {a b : Int} {n : Nat} (h : subN a b = some n) : b = a + n := by
  unfold subN at h
  split at h
  · rename_i m e; cases h; have : b - a = (n : Int) := e; lia
  · exact nos h
noncomputable def gRange1 (a : AV) (σ : Sto) : Option (AV × Sto) := match a with
  | .lin z b => match isZ z, ixN b with
    | true, some n => match σ.new (.rng 0 0 n) with
      | some (k, σ') => some (.ref k, σ')
      | none => none
    | _, _ => none
  | _ => none
noncomputable def gRange2 (a b : AV) (σ : Sto) : Option (AV × Sto) := match a, b with
  | .lin a b, .lin c d => match intB a c, subN b d with
    | true, some n => match σ.new (.rng a b n) with
      | some (k, σ') => some (.ref k, σ')
      | none => none
    | true, none => match small a, small d, σ.new (.rng a b 0) with
      | true, true, some (k, σ') => some (.ref k, σ')
      | _, _, _ => none
    | _, _ => none
  | _, _ => none
theorem subN_none {a b : Int} (h : subN a b = none) : b < a := by
  unfold subN at h
  split at h
  · injection h
  · rename_i m e
    have : b - a < 0 := by rw [e]; exact Int.negSucc_lt_zero m
    lia
theorem cRange1 (n : Nat) : Ct1 W n (.type "range") gRange1 := by
  intro cx O ads a x hv ρ σ v σ' hd s Q E S k
  unfold gRange1 at hd
  split at hd
  · split at hd
    · rename_i j hz hj
      refine gN hd fun kk σ₁ en hd => ?_
      cases hd
      cases isZ_is hz
      obtain ⟨rfl, _⟩ := ixN_is hj
      obtain ⟨t, hqq⟩ := hv; subst hqq
      simp only [Int.zero_mul, Int.zero_add]
      refine call_range_1 ?_
      obtain ⟨S', X, he⟩ := S.alloc (h' := s.heap.push _) (fun b o e => Heap.get?_push_of_some _ e) (heap_fresh s.heap) (Heap.get?_push_size _ rfl) (ao := .rng 0 0 j) ⟨s.toks, t, s.toks + 1, (j : Int), .inl (by lia), by simp only [Int.zero_mul, Int.zero_add]; rfl⟩ en
      exact k _ _ _ _ X ⟨_, he, rfl⟩ S'
    · exact nos hd
  · exact nos hd
theorem cRange2 (n : Nat) : Ct2 W n (.type "range") gRange2 := by
  intro cx O ads a x b y ha hb ρ σ v σ' hd s Q E S k
  unfold gRange2 at hd
  split at hd
  · split at hd
    · rename_i m hz hj
      refine gN hd fun kk σ₁ en hd => ?_
      cases hd
      cases intB_is hz
      cases subN_is hj
      obtain ⟨t, hqq⟩ := ha; subst hqq
      obtain ⟨u, hqq⟩ := hb; subst hqq
      refine call_range_2 ?_
      obtain ⟨S', X, he⟩ := S.alloc (h' := s.heap.push _) (fun b o e => Heap.get?_push_of_some _ e) (heap_fresh s.heap) (Heap.get?_push_size _ rfl) (ao := .rng _ _ m) ⟨t, u, s.toks, _, .inl (Int.add_assoc _ _ _).symm, rfl⟩ en
      exact k _ _ _ _ X ⟨_, he, rfl⟩ S'
    · rename_i hz hj
      split at hd
      · rename_i kk σ₁ sa sd en
        cases hd
        cases intB_is hz
        have hlt := subN_none hj
        obtain ⟨t, hqq⟩ := ha; subst hqq
        obtain ⟨u, hqq⟩ := hb; subst hqq
        refine call_range_2 ?_
        have hbd := lin_small O.hq sa sd
        obtain ⟨S', X, he⟩ := S.alloc (h' := s.heap.push _) (fun b o e => Heap.get?_push_of_some _ e) (heap_fresh s.heap) (Heap.get?_push_size _ rfl) (ao := .rng _ _ 0) ⟨t, u, s.toks, _, .inr ⟨rfl, by lia, hbd.1⟩, rfl⟩ en
        exact k _ _ _ _ X ⟨_, he, rfl⟩ S'
      · exact nos hd
    · exact nos hd
  · exact nos hd
noncomputable def upTo (a : Int) : Nat → List AV
  | 0 => []
  | n + 1 => upTo a n ++ [.lin 0 (a + n)]
/-- list(range) -/
noncomputable def gList (a : AV) (σ : Sto) : Option (AV × Sto) := match a with
  | .ref k => match σ.get k with
    | some (.rng a b n) => match isZ a, small b, Nat.ble n 1000000 with
      | true, true, true => match σ.new (.list (upTo b n)) with
        | some (k, σ') => some (.ref k, σ')
        | none => none
      | _, _, _ => none
    | _ => none
  | _ => none
theorem upTo_VRs {q : Int} {ads : List Addr} {a : Int} : ∀ (n : Nat) (l : List Value), l.length = n → (∀ (i : Nat) v, l[i]? = some v → ∃ t, v = Value.int (a + (i : Int) * 1) t) → VRs q ads (upTo a n) l
  | 0, [], _, _ => trivial
  | n + 1, l, hl, h => by
    obtain ⟨l', x, rfl⟩ : ∃ l' x, l = l' ++ [x] := by
      have : l ≠ [] := by intro e; subst e; cases hl
      exact ⟨l.dropLast, l.getLast this, (List.dropLast_concat_getLast this).symm⟩
    simp at hl
    refine VRs.append (upTo_VRs n l' hl fun i v e => h i v ?_) ⟨?_, trivial⟩
    · rw [List.getElem?_append_left (List.getElem?_eq_some_iff.mp e).1]; exact e
    · obtain ⟨t, e⟩ := h n x (by rw [← hl]; simp)
      simp only [e, Int.mul_one]
      exact int0_VR
theorem cList (n : Nat) : Ct1 W n (.type "list") gList := by
  intro cx O ads a x hv ρ σ v σ' hd s Q E S k
  unfold gList at hd
  split at hd
  · split at hd
    · rename_i a b m e
      split at hd
      · rename_i hz hb hm
        refine gN hd fun kk σ₁ en hd => ?_
        cases hd
        cases isZ_is hz
        obtain ⟨p, o, rfl, ep, ho, t, u, w, e0, he0, rfl⟩ := S.at hv e
        have hm := Nat.le_of_ble_eq_true hm
        have hb := small_is hb
        have hsz : Builtin.Range.rangeSize (0 * W.q + b) e0 1 = m := by
          rw [rangeSize_one]; split <;> lia
        refine call_list_range O.hh ho (small_one (by lia) (by lia) (by lia) (by lia)) hsz (by lia) fun h' tk acc' c' hk hs hi => ?_
        obtain ⟨S', X, he⟩ := S.alloc hk (heap_fresh s.heap) hs (ao := .list (upTo b m)) ⟨acc'.toList, c', by rfl, upTo_VRs m acc'.toList (by simpa using hi.1) fun i v e => by
          have := hi.2 i v (by simpa using e)
          rw [Int.zero_mul, Int.zero_add] at this
          exact this⟩ en
        exact k _ _ _ _ X ⟨_, he, rfl⟩ S'
      · exact nos hd
    · exact nos hd
  · exact nos hd
/-- max -/
noncomputable def gMax (a b : AV) (σ : Sto) : Option (AV × Sto) := match a, b with
  | .lin a b, .lin c d => match intB a c with
    | true => some (.lin a (if b < d then d else b), σ)
    | false => none
  | _, _ => none
theorem cMax (n : Nat) : Ct2 W n (.builtin "max") gMax := by
  intro cx O ads a x b y ha hb ρ σ v σ' hd s Q E S k
  unfold gMax at hd
  split at hd
  · rename_i a b c d
    refine gB hd fun hz hd => ?_
    cases hd
    cases intB_is hz
    obtain ⟨t, hqq⟩ := ha; subst hqq
    obtain ⟨u, hqq⟩ := hb; subst hqq
    obtain ⟨mm, F, hm⟩ := S.open
    refine max_two_N O.hh F S.news fun h' tk F' N' => ?_
    refine k ads _ h' tk (.refl _) ?_ (S.close hm F' (S.kept N' fun p hp => hp))
    by_cases q : b < d
    · rw [if_pos q, if_pos (by lia), if_pos (by lia)]; exact ⟨_, rfl⟩
    · rw [if_neg q, if_neg (by lia), if_neg (by lia)]; exact ⟨_, rfl⟩
  · exact nos hd
/-- sum of ints -/
noncomputable def sumO : List AV → Option Int
  | [] => some 0
  | .lin a b :: r => match isZ a, sumO r with
    | true, some s => some (b + s)
    | _, _ => none
  | _ :: _ => none
noncomputable def gSum (a : AV) (σ : Sto) : Option (AV × Sto) := match a with
  | .ref k => match σ.get k with
    | some (.list l) => match sumO l with
      | some i => some (.lin 0 i, σ)
      | none => none
    | _ => none
  | _ => none
theorem sumO_is {q : Int} {ads : List Addr} : ∀ {l : List AV} {vs : List Value} {i : Int}, VRs q ads l vs → sumO l = some i → ∃ ns, IntsAre vs ns ∧ ns.sum = i
  | [], [], i, _, h => by cases h; exact ⟨[], .nil, rfl⟩
  | a :: r, x :: vs, i, ⟨hv, hr⟩, h => by
    unfold sumO at h
    split at h
    · rename_i e; cases e
    · rename_i a b r' e
      cases e
      split at h
      · rename_i s hz hs
        cases h
        cases isZ_is hz
        obtain ⟨ns, h1, h2⟩ := sumO_is hr hs
        obtain ⟨t, hqq⟩ := hv; subst hqq
        refine ⟨b :: ns, ?_, by simp [h2]⟩
        rw [Int.zero_mul, Int.zero_add]
        exact .cons b t h1
      · exact nos h
    · exact nos h
  | [], _ :: _, _, h, _ => h.elim
  | _ :: _, [], _, h, _ => h.elim
theorem cSum (n : Nat) : Ct1 W n (.builtin "sum") gSum := by
  intro cx O ads a x hv ρ σ v σ' hd s Q E S k
  unfold gSum at hd
  split at hd
  · split at hd
    · rename_i l e
      split at hd
      · rename_i i ei
        cases hd
        obtain ⟨p, o, rfl, ep, ho, vs, m, rfl, rv⟩ := S.at hv e
        obtain ⟨ns, h1, rfl⟩ := sumO_is rv ei
        obtain ⟨mm, F, hm⟩ := S.open
        refine sumK O.hh F S.news (l := p) (vs := vs) ⟨_, ho, rfl, _, rfl⟩ h1 fun h' tk t' F' N' => ?_
        exact k ads _ h' tk (.refl _) int0_VR (S.close hm F' (S.kept N' fun p hp => hp))
      · exact nos hd
    · exact nos hd
  · exact nos hd
/-- tuple(list) -/
noncomputable def gTuple (a : AV) (σ : Sto) : Option (AV × Sto) := match a with
  | .ref k => match σ.get k with
    | some (.list l) => match Nat.ble l.length 1000000 with
      | true => match σ.new (.tup l) with
        | some (k, σ') => some (.ref k, σ')
        | none => none
      | false => none
    | _ => none
  | _ => none
theorem cTuple (n : Nat) : Ct1 W n (.type "tuple") gTuple := by
  intro cx O ads a x hv ρ σ v σ' hd s Q E S k
  unfold gTuple at hd
  split at hd
  · split at hd
    · rename_i l e
      refine gB hd fun hl hd => ?_
      refine gN hd fun kk σ₁ en hd => ?_
      cases hd
      obtain ⟨p, o, rfl, ep, ho, vs, m, rfl, rv⟩ := S.at hv e
      refine call_tuple_list (l := p) (items := vs.toArray) ⟨_, ho, rfl, _, rfl⟩ (fun h' hk => ?_) (by have := VRs.length rv; have := small_size hl; simp; lia)
      obtain ⟨S', X, he⟩ := (S.grow hk).alloc (h' := h'.push _) (fun b o e => Heap.get?_push_of_some _ e) (heap_fresh h') (Heap.get?_push_size _ rfl) (ao := .tup l) ⟨vs, 0, rfl, rv⟩ en
      exact k _ _ _ s.toks X ⟨_, he, rfl⟩ S'
    · exact nos hd
  · exact nos hd
/-- chr, ord -/
noncomputable def gChr (a : AV) (σ : Sto) : Option (AV × Sto) := match a with
  | .lin z b => match isZ z, ixN b with
    | true, some n => match Nat.ble n 55000 with
      | true => some (.str [n], σ)
      | false => none
    | _, _ => none
  | _ => none
theorem cChr (n : Nat) : Ct1 W n (.builtin "chr") gChr := by
  intro cx O ads a x hv ρ σ v σ' hd s Q E S k
  unfold gChr at hd
  split at hd
  · split at hd
    · rename_i j hz hj
      refine gB hd fun hl hd => ?_
      cases Option.some.inj hd
      cases isZ_is hz
      obtain ⟨rfl, _⟩ := ixN_is hj
      obtain ⟨t, hqq⟩ := hv; subst hqq
      have := Nat.le_of_ble_eq_true hl
      rw [Int.zero_mul, Int.zero_add]
      refine P.chr_of_int ?_ ?_
      · rw [decide_eq_false (by lia), decide_eq_false (by lia)]; rfl
      · exact k ads _ s.heap _ (.refl _) ⟨_, rfl⟩ S
    · exact nos hd
  · exact nos hd
noncomputable def gOrd (a : AV) (σ : Sto) : Option (AV × Sto) := match a with
  | .str [c] => some (int0 c, σ)
  | _ => none
theorem cOrd (n : Nat) : Ct1 W n (.builtin "ord") gOrd := by
  intro cx O ads a x hv ρ σ v σ' hd s Q E S k
  unfold gOrd at hd
  split at hd
  · cases Option.some.inj hd
    obtain ⟨t, hqq⟩ := hv; subst hqq
    exact P.ord_of_char (k ads _ s.heap _ (.refl _) int0_VR S)
  · exact nos hd
/-- type -/
noncomputable def gType (a : AV) (σ : Sto) : Option (AV × Sto) := match a with
  | .str _ => some (.ty 0, σ)
  | .txt _ => some (.ty 0, σ)
  | .lin _ _ => some (.ty 1, σ)
  | .ref k => match σ.get k with
    | some (.list _) => some (.ty 2, σ)
    | _ => none
  | _ => none
theorem cType (n : Nat) : Ct1 W n (.type "type") gType := by
  intro cx O ads a x hv ρ σ v σ' hd s Q E S k
  unfold gType at hd
  split at hd
  · cases Option.some.inj hd
    obtain ⟨t, hqq⟩ := hv; subst hqq
    exact call_type_of (typeIs_str _ _ _) rfl (k ads _ s.heap _ (.refl _) rfl S)
  · cases Option.some.inj hd
    obtain ⟨t, hqq⟩ := hv; subst hqq
    exact call_type_of (typeIs_str _ _ _) rfl (k ads _ s.heap _ (.refl _) rfl S)
  · cases hd
    obtain ⟨t, hqq⟩ := hv; subst hqq
    exact call_type_of (typeIs_int _ _ _) rfl (k ads _ s.heap _ (.refl _) rfl S)
  · split at hd
    · rename_i l e
      cases hd
      obtain ⟨p, o, rfl, ep, ho, vs, m, rfl, rv⟩ := S.at hv e
      exact call_type_of ⟨_, ho, rfl⟩ rfl (k ads _ s.heap _ (.refl _) rfl S)
    · exact nos hd
  · exact nos hd
/-- divmod, the divisor written -/
noncomputable def gDivmod (a b : AV) (σ : Sto) : Option (AV × Sto) := match a, b with
  | .lin a b, .lin c d => match isZ a, isZ c, small d, isZ d with
    | true, true, true, false => match σ.new (.tup [.lin 0 (b.fdiv d), .lin 0 (b.fmod d)]) with
      | some (k, σ') => some (.ref k, σ')
      | none => none
    | _, _, _, _ => none
  | _, _ => none
theorem cDivmod (n : Nat) : Ct2 W n (.builtin "divmod") gDivmod := by
  intro cx O ads a x b y ha hb ρ σ v σ' hd s Q E S k
  unfold gDivmod at hd
  split at hd
  · split at hd
    · rename_i za zc sd zd
      refine gN hd fun kk σ₁ en hd => ?_
      cases hd
      cases isZ_is za; cases isZ_is zc
      obtain ⟨t, hqq⟩ := ha; subst hqq
      obtain ⟨u, hqq⟩ := hb; subst hqq
      simp only [Int.zero_mul, Int.zero_add]
      obtain ⟨mm, F, hm⟩ := S.open
      refine divmod_N F S.news (isZ_not zd) (fun h' F' N' => ?_) (.inl (byPylong_small sd))
      obtain ⟨S', X, he⟩ := S.add hm F' (heap_fresh _) N' (ao := .tup [.lin 0 _, .lin 0 _]) ⟨[_, _], 0, rfl, int0_VR, int0_VR, trivial⟩ en
      exact k _ _ h' _ X ⟨_, he, rfl⟩ S'
    · exact nos hd
  · exact nos hd
end

section
variable {W : Wo} {cx : Cx} {n : Nat}
/-! methods of texts, ints, lists -/
noncomputable def allAscii : List Nat → Bool
  | [] => true
  | c :: r => match Nat.blt c 128 with | true => allAscii r | false => false
theorem allAscii_is : ∀ {l : List Nat}, allAscii l = true → ∀ c ∈ l, c < 128
  | c :: r, h, d, hd => by
    dsimp only [allAscii] at h
    split at h
    · rename_i hb
      rcases List.mem_cons.mp hd with rfl | hd
      · exact Nat.le_of_ble_eq_true hb
      · exact allAscii_is h d hd
    · injection h
noncomputable def mapN (f : Nat → Nat) : List Nat → List Nat
  | [] => []
  | c :: r => f c :: mapN f r
theorem mapN_eq (f : Nat → Nat) : ∀ l, mapN f l = l.map f
  | [] => rfl
  | c :: r => by simp [mapN, mapN_eq f r]
noncomputable def upF : Nat → Nat := up1
noncomputable def loF : Nat → Nat := lo1
theorem ble_dec (a b : Nat) : Nat.ble a b = decide (a ≤ b) := by
  cases h : Nat.ble a b with
  | true => have := Nat.le_of_ble_eq_true h; simp [this]
  | false => have : ¬ a ≤ b := fun q => by cases (Nat.ble_eq_true_of_le q).symm.trans h
             simp [this]
theorem upF_eq : upF = up1 := rfl
theorem loF_eq : loF = lo1 := rfl
noncomputable def gCase (f : Nat → Nat) (a : AV) (σ : Sto) : Option (AV × Sto) := match a with
  | .str l => match allAscii l, Nat.ble l.length 1000000 with
    | true, true => some (.str (mapN f l), σ)
    | _, _ => none
  | _ => none
theorem fits_small {n : Nat} (h : Nat.ble n 1000000 = true) : Builtin.Str.tooLong n = false := decide_eq_false (Nat.not_lt.mpr (small_size h))
theorem cUpper (n : Nat) : Ct1 W n (.builtin "str.upper") (gCase upF) := by
  intro cx O ads a x hv ρ σ v σ' hd s Q E S k
  dsimp only [gCase] at hd
  split at hd
  · rename_i l
    split at hd
    · rename_i ha hl
      cases hd
      obtain ⟨t, hqq⟩ := hv; subst hqq
      have e : Txt.upper (strN l) = strN (mapN upF l) := by
        simp only [upper_ascii (x := strN l) (fun c hc => allAscii_is ha c (by simpa [strN] using hc)), mapN_eq, upF_eq]
        simp [strN]
      have e2 : placed (strN l) (fun _ c => Unicode.upperOf c) = (strN (mapN upF l)).cps := congrArg Str.cps e
      have hz : (strN (mapN upF l)).cps.size = l.length := by simp [strN, mapN_eq]
      refine call_gives F.slot_str_upper (typeIs_str _ _ t) F.entry_str_upper (F.args_str_upper_1 _) (gives_str_upper (strN l) t (by rw [e2, hz]; exact fits_small hl)) ?_
      rw [e2]
      exact ⟨by show (strN (mapN upF l)).cps.size ≤ _; rw [hz]; exact small_size hl, k ads _ s.heap _ (.refl _) ⟨_, rfl⟩ S⟩
    · exact nos hd
  · exact nos hd
theorem cLower (n : Nat) : Ct1 W n (.builtin "str.lower") (gCase loF) := by
  intro cx O ads a x hv ρ σ v σ' hd s Q E S k
  dsimp only [gCase] at hd
  split at hd
  · rename_i l
    split at hd
    · rename_i ha hl
      cases hd
      obtain ⟨t, hqq⟩ := hv; subst hqq
      have e : Txt.lower (strN l) = strN (mapN loF l) := by
        simp only [lower_ascii (x := strN l) (fun c hc => allAscii_is ha c (by simpa [strN] using hc)), mapN_eq, loF_eq]
        simp [strN]
      have e2 : placed (strN l) (fun i _ => Unicode.lowerAt (strN l).cps i) = (strN (mapN loF l)).cps := congrArg Str.cps e
      have hz : (strN (mapN loF l)).cps.size = l.length := by simp [strN, mapN_eq]
      refine call_gives F.slot_str_lower (typeIs_str _ _ t) F.entry_str_lower (F.args_str_lower_1 _) (gives_str_lower (strN l) t (by rw [e2, hz]; exact fits_small hl)) ?_
      rw [e2]
      exact ⟨by show (strN (mapN loF l)).cps.size ≤ _; rw [hz]; exact small_size hl, k ads _ s.heap _ (.refl _) ⟨_, rfl⟩ S⟩
    · exact nos hd
  · exact nos hd
noncomputable def gBits (a : AV) (σ : Sto) : Option (AV × Sto) := match a with
  | .lin a b => match isZ a with
    | true => some (int0 (Builtin.Int.intBits b), σ)
    | false => none
  | _ => none
theorem cBits (n : Nat) : Ct1 W n (.builtin "int.bit_length") gBits := by
  intro cx O ads a x hv ρ σ v σ' hd s Q E S k
  dsimp only [gBits] at hd
  split at hd
  · refine gB hd fun hz hd => ?_
    cases hd
    cases isZ_is hz
    obtain ⟨t, hqq⟩ := hv; subst hqq
    rw [Int.zero_mul, Int.zero_add]
    exact call_gives F.slot_int_bit_length (typeIs_int _ _ t) F.entry_int_bit_length (F.args_int_bit_length_1 _) (AutoIntG2.int_bit_length_int_0 _ t) (k ads _ s.heap _ (.refl _) int0_VR S)
  · exact nos hd
noncomputable def gRev (a : AV) (σ : Sto) : Option (AV × Sto) := match a with
  | .ref k => match σ.get k with
    | some (.list l) => match Nat.ble l.length 1000000 with
      | true => match σ.put k (.list l.reverse) with
        | some σ' => some (.none, σ')
        | none => none
      | false => none
    | _ => none
  | _ => none
theorem VRs.rev {q : Int} {ads : List Addr} : ∀ {l : List AV} {vs : List Value}, VRs q ads l vs → VRs q ads l.reverse vs.reverse
  | [], [], _ => trivial
  | _ :: _, _ :: _, ⟨h, r⟩ => by rw [List.reverse_cons, List.reverse_cons]; exact VRs.append (VRs.rev r) ⟨h, trivial⟩
  | [], _ :: _, h => h.elim
  | _ :: _, [], h => h.elim
theorem cRev (n : Nat) : Ct1 W n (.builtin "list.reverse") gRev := by
  intro cx O ads a x hv ρ σ v σ' hd s Q E S k
  dsimp only [gRev] at hd
  split at hd
  · split at hd
    · rename_i l e
      refine gB hd fun hl hd => ?_
      split at hd
      · rename_i σ₁ ep
        cases Option.some.inj hd
        obtain ⟨p, o, rfl, eq, ho, vs, m, rfl, rv⟩ := S.at hv e
        have hlen := VRs.length rv
        refine call_meets F.slot_list_reverse ⟨_, ho, rfl⟩ F.entry_list_reverse (F.args_list_reverse_1 _) (AutoSeq1.list_reverse_list_0 p vs.toArray m (by have := small_size hl; simp; lia)) ⟨ho, ?_⟩
        have ho' : (s.heap.update p (Obj.mapSeq fun x => x.reverse)).get? p = some (Obj.mapSeq (fun x => x.reverse) (PySem.W.listOf vs.toArray m)) := Heap.get?_update_self _ ho rfl
        have eo : Obj.mapSeq (fun x => x.reverse) (PySem.W.listOf vs.toArray m) = PySem.W.listOf vs.reverse.toArray m := by
          have e0 : vs.toArray.reverse = vs.reverse.toArray := by simp
          show Obj.mk _ _ (.seq vs.toArray.reverse (if vs.toArray.reverse.size == vs.toArray.size then m else m + 1)) _ = _
          rw [if_pos (by simp), e0]
        rw [eo] at ho'
        exact k ads _ _ s.toks (.refl _) rfl (S.upd (ao := .list l.reverse) eq (Heap.SameBut.update ..).extBut ho' ⟨vs.reverse, m, rfl, rv.rev⟩ ep)
      · exact nos hd
    · exact nos hd
  · exact nos hd
/-- sep.join of a list of one text: that text -/
noncomputable def oneL (o : Option AO) : Option AV := match o with
  | some (.list [v]) => some v
  | _ => none
theorem oneL_is {o : Option AO} {v : AV} (h : oneL o = some v) : o = some (.list [v]) := by
  unfold oneL at h
  split at h
  · cases h; rfl
  · exact nos h
noncomputable def gJoin (a b : AV) (σ : Sto) : Option (AV × Sto) := match a, b with
  | .str sep, .ref k => match Nat.ble sep.length 1000 with
    | true => match oneL (σ.get k) with
      | some (.str x) => (match Nat.ble x.length 1000000 with
        | true => some (.str x, σ)
        | false => none)
      | some (.txt x) => (match Nat.ble (tlen x) 1000000 with
        | true => some (.txt x, σ)
        | false => none)
      | _ => none
    | false => none
  | _, _ => none
theorem join1 {ads : List Addr} {ρ : Loc} {σ : Sto} {s : Shared} {sep x : Str} {t u : Tok} {p : Addr} {m : Nat} {Q : Value → Shared → Prop} {E : Value → Shared → Prop} (S : St W cx ads ρ σ s.heap) (ho : s.heap.get? p = some (PySem.W.listOf [Value.str x u].toArray m)) (hx : x.length ≤ 1000000) (hs : sep.length ≤ 1000) (k : Q (.str x u) s) :
    wpAny (model W.prog W.w) cx.A (call (.builtin "str.join") [.str sep t, .ref p]) Q E s := by
  refine call_meets F.slot_str_join (typeIs_str _ _ t) F.entry_str_join (F.args_str_join_2 _ _) (meets_str_join_list sep t p [(x, u)] ?_) ⟨⟨_, ho, rfl, _, rfl⟩, k⟩
  show Builtin.Str.tooLong (0 + x.length + sep.length) = false
  refine decide_eq_false (Nat.not_lt.mpr ?_)
  simp only [PySem.sizeLine_eq]; lia
theorem cJoin (n : Nat) : Ct2 W n (.builtin "str.join") gJoin := by
  intro cx O ads a x b y ha hb ρ σ v σ' hd s Q E S k
  dsimp only [gJoin] at hd
  split at hd
  · rename_i sep kk
    obtain ⟨t, hqq⟩ := ha; subst hqq
    refine gB hd fun hsep hd => ?_
    split at hd
    · rename_i x e
      have e := oneL_is e
      refine gB hd fun hl hd => ?_
      cases Option.some.inj hd
      obtain ⟨p, o, rfl, eq, ho, vs, m, rfl, rv⟩ := S.at hb e
      obtain ⟨_, rfl, u, rfl⟩ := VRs.one rv
      exact join1 S ho (by simp only [strN_len]; exact Nat.le_of_ble_eq_true hl) (by simp only [strN_len]; exact Nat.le_of_ble_eq_true hsep) (k ads _ s.heap _ (.refl _) ⟨u, rfl⟩ S)
    · rename_i x e
      have e := oneL_is e
      refine gB hd fun hl hd => ?_
      cases Option.some.inj hd
      obtain ⟨p, o, rfl, eq, ho, vs, m, rfl, rv⟩ := S.at hb e
      obtain ⟨_, rfl, u, rfl⟩ := VRs.one rv
      exact join1 S ho (by simp only [strN_len]; exact Nat.le_trans (denT_len _ _) (Nat.le_of_ble_eq_true hl)) (by simp only [strN_len]; exact Nat.le_of_ble_eq_true hsep) (k ads _ s.heap _ (.refl _) ⟨u, rfl⟩ S)
    · exact nos hd
  · exact nos hd
/-! slices -/
noncomputable def fAll (a : AV) : Mo AV := fun ρ σ => match a with
  | .ref k => (match σ.get k with | some (.list l) => fNew .list l ρ σ | _ => none)
  | _ => none
noncomputable def fTo (a b : AV) : Mo AV := fun ρ σ => match a, b with
  | .str l, .lin z i => (match isZ z, ixN i with | true, some j => (match Nat.blt j l.length, Nat.ble l.length 1000000 with | true, true => some (.str (l.take j), ρ, σ) | _, _ => none) | _, _ => none)
  | _, _ => none
/-- l[:] of a list -/
theorem sAll {value : Expr} {p pos : Pos} {d : Mo AV} (hv : TE W cx value d) : TE W cx (.Subscript value (.Slice none none none p) pos) (bnd d fAll) := by
  intro ads ρ σ v ρ' σ' hd s Q E S k
  refine bnd_elim hd fun a ρ₁ σ₁ e1 hd => ?_
  simp only [eval_Subscript]
  refine wpAny_bind (hv _ _ _ _ _ _ e1 s _ _ S fun ads₁ x h₁ tk₁ X₁ r₁ S₁ => wpAny_bind (wpAny_holding (wpAny_Slice ?_)))
  simp only [evalPart_none]
  refine wpAny_pure (wpAny_pure (wpAny_pure (wpAny_bind (wpAny_standAt ?_))))
  dsimp only [fAll] at hd
  split at hd
  · split at hd
    · rename_i l e
      dsimp only [fNew] at hd
      refine gB hd fun hl hd => ?_
      split at hd
      · rename_i j σ₂ en
        replace k := KK.of hd k
        obtain ⟨q, o, rfl, ep, ho, vs, m, rfl, rv⟩ := S₁.at r₁ e
        have hl' : h₁.IsList q vs.toArray := ⟨_, ho, rfl, _, rfl⟩
        have S₂ := S₁.grow (h' := h₁.push { cls := .type "slice", data := .fields #[.none, .none, .none] }) fun b o e => Heap.get?_push_of_some _ e
        refine sub_at rfl list_getitem_lookup (hl'.push _).typeIs (wpAny_getItem_list_slice (hl'.push _) (Heap.IsSliceOf.new ..) .none .none .none (by decide) ?_ (by have := VRs.length rv; have := small_size hl; simp; lia))
        simp only [slicePick_all]
        obtain ⟨S', X, he⟩ := S₂.alloc (h' := Heap.push _ _) (fun b o e => Heap.get?_push_of_some _ e) (heap_fresh _) (Heap.get?_push_size _ rfl) (ao := .list l) ⟨vs, 0, rfl, rv⟩ en
        exact k _ _ _ _ (X₁.trans X) ⟨_, he, rfl⟩ S'
      · exact nos hd
    · exact nos hd
  · exact nos hd
/-- x[:b] of a text -/
theorem sTo {value up : Expr} {p pos : Pos} {d du : Mo AV} (hv : TE W cx value d) (hu : TE W cx up du) : TE W cx (.Subscript value (.Slice none (some up) none p) pos) (bnd d fun a => bnd du fun b => fTo a b) := by
  intro ads ρ σ v ρ' σ' hd s Q E S k
  refine bnd_elim hd fun a ρ₁ σ₁ e1 hd => ?_
  refine bnd_elim hd fun b ρ₂ σ₂ e2 hd => ?_
  simp only [eval_Subscript]
  refine wpAny_bind (hv _ _ _ _ _ _ e1 s _ _ S fun ads₁ x h₁ tk₁ X₁ r₁ S₁ => wpAny_bind (wpAny_holding (wpAny_Slice ?_)))
  simp only [evalPart_none, evalPart_some]
  refine wpAny_pure (hu _ _ _ _ _ _ e2 _ _ _ S₁ fun ads₂ y h₂ tk₂ X₂ r₂ S₂ => wpAny_pure (wpAny_bind (wpAny_standAt ?_)))
  dsimp only [fTo] at hd
  split at hd
  · rename_i l z i
    split at hd
    · rename_i j hz hj
      split at hd
      · rename_i hlt hle
        replace k := KK.of hd k
        cases isZ_is hz
        obtain ⟨rfl, _⟩ := ixN_is hj
        obtain ⟨t, hqq⟩ := r₁; subst hqq
        obtain ⟨u, hqq⟩ := r₂; subst hqq
        rename_i l _ _ _ _ _
        simp only [Int.zero_mul, Int.zero_add]
        have hlt : j < l.length := Nat.le_of_ble_eq_true hlt
        have S₃ := S₂.grow (h' := h₂.push { cls := .type "slice", data := .fields #[.none, .int (j : Int) u, .none] }) fun b o e => Heap.get?_push_of_some _ e
        have e : slicePicked (strN l) none (some ((j : Int), u)) none = (List.range j) := by
          show Builtin.Str.strSliceIndices none (some (j : Int)) 1 (strN l).length = _
          have h0 := PySem.StrLaws.strSliceIndices_plain (a := 0) (b := j) (len := (strN l).length) (Nat.zero_le _) (by simp only [strN_len]; lia)
          rw [Nat.sub_zero] at h0
          have h1 : Builtin.Str.strSliceIndices none (some (j : Int)) 1 (strN l).length = Builtin.Str.strSliceIndices (some ((0 : Nat) : Int)) (some (j : Int)) 1 (strN l).length := by
            simp only [strN_len]
            unfold Builtin.Str.strSliceIndices
            simp
            simp only [show max 0 (min 0 (l.length : Int)) = 0 by lia]
          simp only [h1, h0]
          simp
        refine sub_at rfl F.slot_str_getitem.lookup (typeIs_str _ _ t) (wpAny_getItem_str_slice (l := none) (u := some ((j : Int), u)) (st := none) ⟨_, Heap.get?_push_size _ rfl, rfl, rfl⟩ rfl ?_)
        dsimp only [sliceMade]
        rw [e]
        rw [if_neg (by simp [strN_len]; lia)]
        have e3 : ((List.range j).filterMap ((strN l).cps[·]?)).toArray = (l.take j).toArray := by
          have h5 := StrLaws.picks l j 0 (by lia)
          simp only [List.drop_zero, Nat.zero_add] at h5
          simp only [← h5]
          simp [strN]
        rw [e3]
        exact ⟨by show (l.take j).toArray.size ≤ _; have := small_size hle; simp; lia, k ads₂ _ _ _ (X₁.trans X₂) ⟨_, rfl⟩ S₃⟩
      · exact nos hd
    · exact nos hd
  · exact nos hd
end

theorem plainAttrs_re : PlainAttrs "re.Pattern" :=
  ⟨⟨"object.__getattribute__", by rw [typeLookup_type, builtinLookup_eq_fast]; kernel_rfl, by decide +kernel⟩, by rw [typeLookup_type, builtinLookup_eq_fast]; kernel_rfl⟩
theorem slot_re_search : Slot "re.Pattern" "search" "re.Pattern.search" :=
  .of (owner := "re.Pattern") (n := "search") (by rw [typeLookup_type, builtinLookup_eq_fast]; kernel_rfl) (by decide +kernel) (by decide +kernel) (by decide +kernel)
    (by first | exact .inl (by decide +kernel) | exact .inr (by decide +kernel)) (by rw [isSubtype_type]; kernel_rfl)
theorem type_re_search : typeOf (.builtin "re.Pattern.search") = pure (.type "method_descriptor") := by show builtinType _ = _; rw [builtinType_eq_fast]; kernel_rfl
theorem entry_re_search : entryFor table "re.Pattern.search" = some Builtin.«re.Pattern.search» := entryFor_of_tree (by kernel_rfl)
theorem args_re_search_2 (a b : Value) : argsOk "re.Pattern.search" ⟨[a, b], []⟩ := by
  dsimp only [argsOk]
  kernel_rfl

/-! a search that finds nothing -/
open PySem.Builtin.Re in
theorem admitted_none {m : Sre.M} (hs : ∀ s, s < m.lim → ∀ seen, ∃ seen', Sre.inSet m.code (m.text.getD s 0) m.code.size 5 true seen = .ok (false, seen')) : ∀ (f s : Nat) (seen : Sre.Seen), ∃ seen', Sre.M.admitted m f s seen = .ok (none, seen')
  | 0, s, seen => ⟨seen, rfl⟩
  | f + 1, s, seen => by
    unfold Sre.M.admitted
    by_cases h : s ≥ m.lim
    · rw [if_pos h]; exact ⟨seen, rfl⟩
    · rw [if_neg h]
      obtain ⟨seen', e⟩ := hs s (by lia) seen
      rw [e]
      exact admitted_none hs f (s + 1) seen'
structure NoM (m : Sre.M) : Prop where
  a : m.answer = some false
  f : m.frames = []
  o : m.outcome = none
theorem attempt_none {m : Sre.M} {s : Nat} {first : Bool} (h1 : m.hasFirstSet = true) (hs : ∀ s, s < m.lim → ∀ seen, ∃ seen', Sre.inSet m.code (m.text.getD s 0) m.code.size 5 true seen = .ok (false, seen')) (hf : m.frames = []) (ho : m.outcome = none) : NoM (m.attemptFrom s first) := by
  unfold Sre.M.attemptFrom
  obtain ⟨seen', e⟩ := admitted_none hs (m.lim + 1 - s) s m.seen
  rw [h1, e]
  exact ⟨rfl, hf, ho⟩
noncomputable def firstSet (code : Array Nat) : Bool := (match Sre.ops[code.getD 0 0]? with | some .INFO => true | _ => false) && code.getD 2 0 == 4
theorem search_none {code text : Array Nat} {g : Nat} (hf : firstSet code = true)
    (hs : ∀ s, s < text.size → ∀ seen, ∃ seen', Sre.inSet code (text.getD s 0) code.size 5 true seen = .ok (false, seen')) : NoM (Sre.forSearch code text g 0 text.size false) := by
  unfold Sre.forSearch
  dsimp only
  split
  · exact ⟨rfl, rfl, rfl⟩
  · exact attempt_none hf hs rfl rfl
section
variable {M : Model} {A : Around} {E : Value → Shared → Prop} {s : Shared}
theorem wp_seen {α : Type} {m : Sre.M} {t : Sem α} {Q : α → Shared → Prop} (h : wpAny M A t Q E s) :
    wpAny M A (do
      for i in List.range Sre.names.size do
        if m.seen.has i then rule (Sre.names.getD i "")
      t) Q E s := by
  refine wpAny_bind (wpAny_forIn_list _ (fun _ _ s' => wpAny M A t Q E s') _ ?_ ?_ _ _ h)
  · intro x rest b s' h'
    by_cases c : m.seen.has x = true
    · simp only [c, if_true]
      exact wpAny_bind (wpAny_rule (wpAny_pure h'))
    · simp only [c]
      exact wpAny_pure h'
  · intro b s' h'; exact h'
open PySem.Builtin.Re in
theorem run_none {m : Sre.M} (N : NoM m) {Q : Option Sre.M → Shared → Prop} (h : Q none s) : wpAny M A (reRunToEnd m) Q E s := by
  have e1 : m.runFor reTurnSteps = { m with outcome := some .failed } := by
    obtain ⟨a, f, o⟩ := N
    obtain ⟨_, _, _, _, _, _, _, _, _, _, _, _, _, _, _, _, _, _, _, _, _⟩ := m
    dsimp only at a f o
    subst a f o
    rfl
  dsimp only [reRunToEnd]
  have e2 : reDrive (2 ^ 64) m = pure { m with outcome := some .failed } := by
    show reDrive (18446744073709551615 + 1) m = _
    unfold reDrive
    dsimp only
    rw [e1]
    rfl
  rw [e2]
  refine wpAny_bind (wpAny_pure (wp_seen ?_))
  exact wpAny_pure h

open PySem.Builtin.Re in
theorem search_tree {x : Str} {t : Tok} {p c : Addr} {o oc : Obj} {fs items : Array Value} {n : Nat} {Q : PySem.Fin → Shared → Prop} (ho : s.heap.get? p = some o) (hd : o.data = .fields fs) (hc : s.heap.get? c = some oc) (hcd : oc.data = .seq items n)
    (h5 : fs.getD 5 .none = .ref c) (h6 : reRawNat (fs.getD 6 .none) = 0)
    (hfit : min (2 ^ 63 - 1 : Int).toNat x.cps.size = x.cps.size)
    (hf : firstSet ((items.map reRawOf).map (·.toNat)) = true)
    (hs : ∀ s, s < x.cps.size → ∀ seen, ∃ seen', Sre.inSet ((items.map reRawOf).map (·.toNat)) (x.cps.getD s 0) ((items.map reRawOf).map (·.toNat)).size 5 true seen = .ok (false, seen'))
    (h : Q (.done (.ret .none)) s) : wpAny M A (Builtin.«re.Pattern.search» ⟨[.ref p, .str x t], []⟩) Q E s := by
  unfold Builtin.«re.Pattern.search» reTarget
  dsimp only
  have e1 : reNamed "re.Pattern.search" "search" ["string", "pos", "endpos"] 1 [.str x t] [] = pure [some (.str x t), none, none] := by rfl
  simp only [e1]
  simp only [pure_bind]
  dsimp only [fieldsOf]
  refine wpAny_bind (wpAny_bind (wpAny_bind (wpAny_load ho ?_)))
  simp only [hd]
  refine wpAny_pure ?_
  dsimp only [reTextOf]
  have e2 : asStr? (.str x t) = pure (some x) := rfl
  simp only [e2]
  simp only [pure_bind]
  rw [if_neg (by rw [h6]; decide), if_neg (by rw [h6]; decide)]
  have e3 : reNoCollectionInside (.str x t) 0 = pure () := rfl
  simp only [e3, h5]
  simp only [pure_bind]
  unfold reRawItems seqItems?
  refine wpAny_bind (wpAny_bind (wpAny_bind (wpAny_load hc ?_)))
  simp only [hcd]
  refine wpAny_pure (wpAny_pure (wpAny_pure ?_))
  dsimp only [reAnswer]
  dsimp only [Option.getD_some]
  have e4 : min (Int.toNat 0) x.cps.size = 0 := by rfl
  have e5 : min (2 ^ 63 - 1 : Int).toNat x.cps.size = x.cps.size := hfit
  rw [e4, e5]
  exact wpAny_bind (run_none (search_none hf hs) (wpAny_pure h))
end

noncomputable def codeN : Array Nat := #[14, 10, 4, 1, 1, 22, 0, 31, 16, 127, 0, 13, 7, 22, 0, 31, 16, 127, 0, 1]
noncomputable def codeV : Array Nat := #[14, 14, 4, 1, 1, 9, 4294966783, 0, 0, 2147483648, 0, 0, 0, 0, 0, 13, 11, 9, 4294966783, 0, 0, 2147483648, 0, 0, 0, 0, 0, 1]
noncomputable def SetNone (code : Array Nat) : Prop := ∀ c, 32 ≤ c → c ≠ 127 → ∀ seen, ∃ seen', Sre.inSet code c code.size 5 true seen = .ok (false, seen')
theorem setN : SetNone codeN := by
  intro c h1 h2 seen
  have e1 : Sre.inSet codeN c codeN.size 5 true seen = if 0 ≤ c && c ≤ 31 then .ok (true, seen.add 22) else Sre.inSet codeN c 19 8 true (seen.add 22) := rfl
  have e2 : Sre.inSet codeN c 19 8 true (seen.add 22) = if c == 127 then .ok (true, (seen.add 22).add 16) else Sre.inSet codeN c 18 10 true ((seen.add 22).add 16) := rfl
  have e3 : Sre.inSet codeN c 18 10 true ((seen.add 22).add 16) = .ok (false, ((seen.add 22).add 16).add 0) := rfl
  rw [e1, if_neg (by simp; lia), e2, if_neg (by simpa using h2), e3]
  exact ⟨_, rfl⟩
theorem bitsV : ∀ c, c < 256 → 32 ≤ c → c ≠ 127 → (codeV.getD (5 + (1 + c / 32)) 0).testBit (c % 32) = false := by decide +kernel
theorem setV : SetNone codeV := by
  intro c h1 h2 seen
  have e1 : Sre.inSet codeV c codeV.size 5 true seen = if c < 256 && (codeV.getD (5 + (1 + c / 32)) 0).testBit (c % 32) then .ok (true, seen.add 9) else Sre.inSet codeV c 27 14 true (seen.add 9) := rfl
  have e3 : Sre.inSet codeV c 27 14 true (seen.add 9) = .ok (false, (seen.add 9).add 0) := rfl
  simp only [e1]
  by_cases h : c < 256
  · rw [bitsV c h h1 h2, if_neg (by simp), e3]; exact ⟨_, rfl⟩
  · rw [if_neg (by simp [h]), e3]; exact ⟨_, rfl⟩
noncomputable def goodC (c : Nat) : Bool := match Nat.ble 32 c, Nat.beq c 127 with | true, false => true | _, _ => false
theorem goodC_is {c : Nat} (h : goodC c = true) : 32 ≤ c ∧ c ≠ 127 := by
  dsimp only [goodC] at h
  split at h
  · rename_i h1 h2; exact ⟨Nat.le_of_ble_eq_true h1, Nat.ne_of_beq_eq_false h2⟩
  · cases h
noncomputable def goodL : List Nat → Bool
  | [] => true
  | c :: r => match goodC c with | true => goodL r | false => false
theorem goodL_is : ∀ {l : List Nat}, goodL l = true → ∀ c ∈ l, 32 ≤ c ∧ c ≠ 127
  | c :: r, h, d, hd => by
    dsimp only [goodL] at h
    split at h
    · rename_i hb
      rcases List.mem_cons.mp hd with rfl | hd
      · exact goodC_is hb
      · exact goodL_is h d hd
    · cases h
noncomputable def goodP : List Pc → Bool
  | [] => true
  | .lit s :: r => match goodL s with | true => goodP r | false => false
  | .oct _ _ :: r => goodP r
theorem signOf_good {o : Nat} (h : o < 128) : 32 ≤ signOf o ∧ signOf o ≠ 127 := by
  dsimp only [signOf]
  split <;> lia
theorem octsGo_good : ∀ (f n : Nat) (acc : List Nat), (∀ c ∈ acc, 32 ≤ c ∧ c ≠ 127) → ∀ c ∈ octsGo f n acc, 32 ≤ c ∧ c ≠ 127
  | 0, _, acc, h => by simpa [octsGo] using h
  | f + 1, n, acc, h => by
    dsimp only [octsGo]
    split
    · refine octsGo_good f (n / 64) _ fun c hc => ?_
      rcases List.mem_cons.mp hc with rfl | hc
      · exact signOf_good (by lia)
      · exact h c hc
    · exact h
theorem octsOf_good (n : Nat) : ∀ c ∈ octsOf n, 32 ≤ c ∧ c ≠ 127 := by
  refine octsGo_good 64 n _ fun c hc => ?_
  simp at hc
  subst hc
  exact signOf_good (by lia)
theorem goodP_is {q : Int} : ∀ {l : List Pc}, goodP l = true → ∀ c ∈ denT q l, 32 ≤ c ∧ c ≠ 127
  | [], _, c, hc => by simp [denT] at hc
  | .lit s :: r, h, c, hc => by
    dsimp only [goodP] at h
    split at h
    · rename_i hs
      rcases List.mem_append.mp (show c ∈ s ++ denT q r from hc) with hc | hc
      · exact goodL_is hs c hc
      · exact goodP_is h c hc
    · cases h
  | .oct a b :: r, h, c, hc => by
    rcases List.mem_append.mp (show c ∈ octsOf (a * q + b).toNat ++ denT q r from hc) with hc | hc
    · exact octsOf_good _ c hc
    · exact goodP_is (l := r) h c hc
/-- a written pattern, by its address -/
structure PatOk (W : Wo) (p : Addr) : Prop where
  ex : ∃ o fs c oc items n, W.K.lookup p = some o ∧ o.cls = .type "re.Pattern" ∧ o.dict = none ∧ o.data = .fields fs ∧ W.K.lookup c = some oc ∧ oc.data = .seq items n ∧ fs.getD 5 .none = .ref c ∧ Builtin.Re.reRawNat (fs.getD 6 .none) = 0 ∧
    firstSet ((items.map Builtin.Re.reRawOf).map (·.toNat)) = true ∧ SetNone ((items.map Builtin.Re.reRawOf).map (·.toNat))
noncomputable def gSearch (p1 p2 : Nat) (a b : AV) (σ : Sto) : Option (AV × Sto) := match a with
  | .wr (.ref p) => match (match Nat.beq p p1 with | true => true | false => Nat.beq p p2) with
    | true => match pcs b with
      | some l => match goodP l, Nat.ble (tlen l) 1000000 with
        | true, true => some (.none, σ)
        | _, _ => none
      | none => none
    | false => none
  | _ => none
noncomputable def chkP (p1 p2 : Nat) (a : AV) (_ : Sto) : Bool := match a with
  | .wr (.ref p) => (match Nat.beq p p1 with | true => true | false => Nat.beq p p2)
  | _ => false
section
variable {W : Wo} {cx : Cx} {n : Nat}
theorem pat_either {p1 p2 p : Nat} (h1 : PatOk W p1) (h2 : PatOk W p2) (h : (match Nat.beq p p1 with | true => true | false => Nat.beq p p2) = true) : PatOk W p := by
  split at h
  · rename_i e; rw [Nat.eq_of_beq_eq_true e]; exact h1
  · rw [Nat.eq_of_beq_eq_true h]; exact h2
theorem cSearch {p1 p2 : Nat} (h1 : PatOk W p1) (h2 : PatOk W p2) (n : Nat) : Ct2 W n (.builtin "re.Pattern.search") (gSearch p1 p2) := by
  intro cx O ads a x b y ha hb ρ σ v σ' hd s Q E S k
  refine opq fun PP oo => ?_
  dsimp only [gSearch] at hd
  split at hd
  · rename_i p
    split at hd
    · rename_i hp
      split at hd
      · rename_i l el
        split at hd
        · rename_i hg hl
          refine oo ?_
          cases Option.some.inj hd
          subst ha
          obtain ⟨o, fs, c, oc, items, m, e1, e2, _, e3, e4, e5, e6, e7, e8, e9⟩ := (pat_either h1 h2 hp).ex
          obtain ⟨t, rfl⟩ := pcs_VR hb el
          obtain ⟨mm, F, hm⟩ := S.open
          have X := O.kin.keeps F.keep
          have hlen : (strN (denT W.q l)).cps.size ≤ 1000000 := by
            simp only [strN, List.size_toArray]
            exact Nat.le_trans (denT_len _ _) (Nat.le_of_ble_eq_true hl)
          refine wpAny_call_entry slot_re_search ⟨o, X _ _ e1, e2⟩ entry_re_search ?_ (args_re_search_2 _ _)
          have hmem : ∀ i, i < (strN (denT W.q l)).cps.size → (strN (denT W.q l)).cps.getD i 0 ∈ denT W.q l := fun i hi => by
            simp only [strN, List.size_toArray] at hi
            simp [strN, Array.getD, hi]
          refine search_tree (X _ _ e1) e3 (X _ _ e4) e5 e6 e7 ?_ e8 (fun i hi seen => e9 _ ?_ ?_ seen) ⟨_, rfl, k ads _ s.heap s.toks (.refl _) rfl S⟩
          · have : ((2 : Int) ^ 63 - 1).toNat = 9223372036854775807 := by decide
            rw [this]; lia
          · exact (goodP_is hg _ (hmem i hi)).1
          · exact (goodP_is hg _ (hmem i hi)).2
        · exact nos hd
      · exact nos hd
    · exact nos hd
  · exact nos hd
theorem chkP_is {p1 p2 : Nat} (h1 : PatOk W p1) (h2 : PatOk W p2) (O : Ok W n cx) (ads : List Addr) (a : AV) (x : Value) (ρ : Loc) (σ : Sto) (s : Shared) (S : St W cx ads ρ σ s.heap) (hv : VR W.q ads a x) (h : chkP p1 p2 a σ = true) :
    s.TypeIs x "re.Pattern" ∧ (∀ a, x = .ref a → ∃ ob, s.heap.get? a = some ob ∧ ob.dict = none) := by
  dsimp only [chkP] at h
  split at h
  · subst hv
    obtain ⟨o, fs, c, oc, items, m, e1, e2, e3, _⟩ := (pat_either h1 h2 h).ex
    obtain ⟨mm, F, hm⟩ := S.open
    have X := O.kin.keeps F.keep
    exact ⟨⟨o, X _ _ e1, e2⟩, fun b e => by cases e; exact ⟨o, X _ _ e1, e3⟩⟩
  · cases h
end

section
variable {W : Wo} {cx : Cx} {n : Nat}
noncomputable def fSwap (i j : Nat) (v : AV) : Mo Fl := fun ρ σ => match v with
  | .ref k => (match σ.get k with
    | some (.tup [a, b]) => bnd (putL j b) (fun _ => bnd (putL i a) fun _ => ret .next) ρ σ
    | _ => none)
  | _ => none
/-- a, b = (x, y) over two locals: the stores swapped -/
theorem sSwap {x y : Str} {px py tp pos : Pos} {kd : Nat} {value : Expr} {d : Mo AV} (O : Ok W n cx) (i j : Nat) (hv : TE W cx value d) (hx : nm i = x) (hy : nm j = y) (hi : i < NN) (hj : j < NN) (hkx : cx.env.kindOf x = some .local) (hky : cx.env.kindOf y = some .local)
    (hs : swapsWithSole [.Tuple [.Name x px, .Name y py] kd tp] value pos.line cx.env = pure false) (hw : swappedStores [.Tuple [.Name x px, .Name y py] kd tp] value cx.env = pure (some [x, y])) :
    TS W cx (.Assign [.Tuple [.Name x px, .Name y py] kd tp] value pos) (bnd d (fSwap i j)) := by
  intro ads ρ σ v ρ' σ' hd s Q E S k
  refine bnd_elim hd fun w ρ₁ σ₁ e1 hd => ?_
  refine Assign_Tuple_swapped (names := [x, y]) (hv _ _ _ _ _ _ e1 s _ _ S fun ads₁ u h₁ tk₁ X₁ r₁ S₁ => ?_) hs hw
  unfold fSwap at hd
  split at hd
  · split at hd
    · rename_i kk _ a b e
      refine bnd_elim hd fun _ ρ₂ σ₂ e2 hd => ?_
      refine bnd_elim hd fun _ ρ₃ σ₃ e3 hd => ?_
      replace k := KK.of hd k
      obtain ⟨p, o, rfl, ep, ho, vs, m, rfl, rv⟩ := S₁.at r₁ e
      obtain ⟨u, w, rfl, ru, rw'⟩ := VRs.two rv
      obtain ⟨mm, F, hm⟩ := S₁.open
      refine unpackItems_tuple O.hh (items := #[u, w]) ⟨_, ho, rfl, _, rfl⟩ fun h' hs' => ?_
      have S₂ := S₁.grow (ext_grow hs')
      refine wpAny_assignInOrder_more (wpAny_bindName (storeL O j hy hky hj ads₁ b w rw' _ _ _ _ _ e2 _ _ _ S₂ fun ads₂ _ h₂ tk₂ X₂ _ S₃ => ?_))
      refine wpAny_assignInOrder_more (wpAny_bindName (storeL O i hx hkx hi ads₂ a u (ru.mono X₂) _ _ _ _ _ e3 _ _ _ S₃ fun ads₃ _ h₃ tk₃ X₃ _ S₄ => ?_))
      exact wpAny_pure (k ads₃ _ h₃ tk₃ (X₁.trans (X₂.trans X₃)) rfl S₄)
    · exact nos hd
  · exact nos hd
/-- o[i] = v -/
theorem sAsgS {o i value : Expr} {pos' pos : Pos} {dv dO di : Mo AV} (hv : TE W cx value dv) (ho : TE W cx o dO) (hi : TE W cx i di) (hs : ∀ env, swapsWith value (some (.Subscript o i pos')) pos.line env = pure false := by intro _; rfl) :
    TS W cx (.Assign [.Subscript o i pos'] value pos) (bnd dv fun v => bnd dO fun a => bnd di fun i => bnd (fSet a i v) fun _ => ret .next) := by
  intro ads ρ σ v ρ' σ' hd s Q E S k
  refine opq fun PP oo => ?_
  refine bnd_elim hd fun a ρ₁ σ₁ e1 hd => ?_
  refine bnd_elim hd fun b ρ₂ σ₂ e2 hd => ?_
  refine bnd_elim hd fun c ρ₃ σ₃ e3 hd => ?_
  refine bnd_elim hd fun u ρ₄ σ₄ e4 hd => ?_
  replace k := KK.of hd k
  refine oo ?_
  refine wpAny_Assign_Subscript (hv _ _ _ _ _ _ e1 s _ _ S fun ads₁ x h₁ tk₁ X₁ r₁ S₁ => ?_) (hs _)
  refine ho _ _ _ _ _ _ e2 _ _ _ S₁ fun ads₂ y h₂ tk₂ X₂ r₂ S₂ => ?_
  refine hi _ _ _ _ _ _ e3 _ _ _ S₂ fun ads₃ z h₃ tk₃ X₃ r₃ S₃ => ?_
  exact oSet (VR.mono X₃ r₂) r₃ (VR.mono X₃ (VR.mono X₂ r₁)) _ _ _ _ _ e4 _ _ _ S₃ fun ads₄ _ h₄ tk₄ X₄ _ S₄ => k ads₄ _ h₄ tk₄ (X₁.trans (X₂.trans (X₃.trans X₄))) rfl S₄
/-! entering a def with cells or a closure -/
noncomputable def bindM : List (Nat × Bool) → List AV → Mo Unit
  | [], [] => ret ()
  | (k, c) :: ps, v :: vs => bnd (match c with | true => putC k v | false => putL k v) fun _ => bindM ps vs
  | _, _ => bad
noncomputable def cellF (ps : List (Nat × Bool)) (cks : List Nat) (l₁ : List (Nat × Nat)) (d : Mo Fl) : List AV → Sto → Option (AV × Sto) := fun vs σ => match ownCells cks σ with
  | some (l₂, σ₁) => match bindM ps vs ⟨[], l₂ ++ l₁⟩ σ₁ with
    | some (_, ρ, σ₂) => outF (d ρ σ₂)
    | none => none
  | none => none
theorem bind_T (O : Ok W n cx) : ∀ (ps : List (Nat × Bool)) (vs : List AV) (xs : List Value) (ads : List Addr), (∀ p ∈ ps, p.1 < NN ∧ cx.env.kindOf (nm p.1) = some (if p.2 then .cell else .local)) → VRs W.q ads vs xs → ps.length = xs.length →
    TAt W cx (fun _ (_ : Unit) (_ : PUnit) => True) ads (forIn ((ps.map fun p => nm p.1).zip xs) PUnit.unit fun x _ => do storeName cx.env x.1 x.2; pure (ForInStep.yield PUnit.unit)) (bindM ps vs)
  | [], vs, xs, ads, hk, hv, hl => by
    cases xs with
    | nil => cases vs with
      | nil =>
        intro ρ σ v ρ' σ' hd s Q E S k
        replace k := KK.of hd k
        simp only [show (([] : List (Nat × Bool)).map fun p => nm p.1).zip ([] : List Value) = [] from rfl, List.forIn_nil]
        exact wpAny_pure (k ads _ s.heap s.toks (.refl _) trivial S)
      | cons _ _ => exact hv.elim
    | cons _ _ => cases hl
  | (p, c) :: ps, vs, xs, ads, hk, hv, hl => by
    cases xs with
    | nil => cases hl
    | cons x xs => cases vs with
      | nil => exact hv.elim
      | cons v vs =>
        obtain ⟨hv, hr⟩ := hv
        intro ρ σ w ρ' σ' hd s Q E S k
        obtain ⟨h1, h2⟩ := hk (p, c) (List.mem_cons_self ..)
        rw [show (((p, c) :: ps).map fun p => nm p.1).zip (x :: xs) = (nm p, x) :: (ps.map fun p => nm p.1).zip xs from rfl, List.forIn_cons]
        have ih := fun ads' (X : Ext ads ads') => bind_T O ps vs xs ads' (fun q hq => hk q (List.mem_cons_of_mem _ hq)) (hr.mono X) (by simpa using hl)
        cases c with
        | true =>
          refine bnd_elim hd fun _ ρ₁ σ₁ e1 hd => ?_
          refine wpAny_bind (wpAny_bind (storeC O p rfl h2 ads v x hv _ _ _ _ _ e1 s _ _ S fun ads₁ _ h₁ tk₁ X₁ _ S₁ => wpAny_pure ?_))
          exact ih ads₁ X₁ _ _ _ _ _ hd _ _ _ S₁ fun ads₃ z h₃ tk₃ X₃ r₃ S₃ => k ads₃ z h₃ tk₃ (X₁.trans X₃) r₃ S₃
        | false =>
          refine bnd_elim hd fun _ ρ₁ σ₁ e1 hd => ?_
          refine wpAny_bind (wpAny_bind (storeL O p rfl h2 h1 ads v x hv _ _ _ _ _ e1 s _ _ S fun ads₁ _ h₁ tk₁ X₁ _ S₁ => wpAny_pure ?_))
          exact ih ads₁ X₁ _ _ _ _ _ hd _ _ _ S₁ fun ads₃ z h₃ tk₃ X₃ r₃ S₃ => k ads₃ z h₃ tk₃ (X₁.trans X₃) r₃ S₃
noncomputable def envX (qual : Str) (scope : Scope) (L f : Addr) (cdv : Value) (cells : List (Str × Addr)) : Env := { scope := scope, locals := L, globals := mainGlobals, cells := cells, qual := qual ++ ".<locals>.", func := some f, code := cdv, frame := some L, builtins := builtinsNs }
theorem bindM_len : ∀ {ps : List (Nat × Bool)} {vs : List AV} {ρ : Loc} {σ : Sto} {r : Unit × Loc × Sto}, bindM ps vs ρ σ = some r → ps.length = vs.length
  | [], [], _, _, _, _ => rfl
  | (p, c) :: ps, v :: vs, ρ, σ, r, h => by
    refine bnd_elim h fun _ _ _ _ h => ?_
    simp [bindM_len h]
  | [], _ :: _, _, _, _, h => by cases h
  | _ :: _, [], _, _, _, h => by cases h
/-- the frame with its cells, its arguments bound -/
theorem frame_T {A : Around} {B : Heap} {fz : List (Addr × Obj)} {f : Addr} {qual : Str} {scope : Scope} {cdv : Value} {cl : List (Str × Addr)} {ps : List (Nat × Bool)} {cks : List Nat} {l₁ l₂ : List (Nat × Nat)} {vs : List AV} {xs : List Value} {ads₀ : List Addr} {σ σ₁ σ₂ : Sto} {ρ₂ : Loc} {u : Unit} {s₀ : Shared} {env : Env}
    (henv : env = envX qual scope s₀.heap.objs.size f cdv (consN (s₀.heap.objs.size + 1) cks cl)) (O : Ok W n ⟨A, B, s₀.heap.objs.size, env, [], fz⟩) (S₁ : St W ⟨A, B, s₀.heap.objs.size, env, [], fz⟩ ads₀ ⟨[], []⟩ σ (s₀.heap.push { cls := .type "frame", data := .dict #[] }))
    (hck : ∀ h, pushCells h scope.names = pushN h cks.length) (hcc : ∀ n acc, cellsFrom n scope.names acc = consN n cks acc) (hcks : cks.Nodup ∧ (∀ k ∈ cks, k < NN))
    (hl₁ : ∀ j c, look l₁ j = some c → j < NN ∧ j ∉ cks ∧ ∃ a, ads₀[c]? = some a ∧ cl.lookup (nm j) = some a)
    (hps : ∀ p ∈ ps, p.1 < NN ∧ scope.names.lookup (nm p.1) = some (if p.2 then .cell else .local)) (hv : VRs W.q ads₀ vs xs)
    (e1 : ownCells cks σ = some (l₂, σ₁)) (e2 : bindM ps vs ⟨[], l₂ ++ l₁⟩ σ₁ = some (u, ρ₂, σ₂)) {Q : Env → Shared → Prop} {E : Value → Shared → Prop}
    (k : ∀ ads' h' tk, Ext ads₀ ads' → St W ⟨A, B, s₀.heap.objs.size, env, [], fz⟩ ads' ρ₂ σ₂ h' → Q env { s₀ with heap := h', toks := tk }) :
    wpAny (model W.prog W.w) A (newFunctionEnv scope mainGlobals cl ((ps.map fun p => nm p.1).zip xs) (qual ++ ".<locals>.") (some f) cdv none builtinsNs) Q E s₀ := by
  have hlen : ps.length = xs.length := (bindM_len e2).trans (VRs.length hv)
  simp only [newFunctionEnv, Option.isSome_none, Bool.false_eq_true, if_false]
  refine wpAny_bind (wpAny_alloc ?_)
  refine wpAny_bind (wpAny_layCells _ (fun name kind cells => by cases hkc : kind == NameKind.cell <;> simp [hkc]) _ _ _ _ ?_)
  rw [show ({ s₀ with heap := s₀.heap.push { cls := .type "frame", data := .dict #[] } } : Shared).heap.objs.size = s₀.heap.objs.size + 1 from Heap.size_push .., hcc, hck]
  subst henv
  obtain ⟨ads₂, X₂, S₂, hl₂⟩ := cells_T S₁ e1 hcks.1 hcks.2
  rw [Heap.size_push] at hl₂
  refine wpAny_bind (bind_T O ps vs xs ads₂ hps (hv.mono X₂) hlen _ _ _ _ _ e2 { s₀ with heap := pushN (s₀.heap.push { cls := .type "frame", data := .dict #[] }) cks.length } _ _ ⟨S₂.fr, fun j c e => ?_, S₂.nd, S₂.len, S₂.new, S₂.obj, S₂.pv⟩ fun ads₄ _ h₄ tk₄ X₄ _ S₄ => wpAny_pure (k ads₄ h₄ tk₄ (X₂.trans X₄) S₄))
  rw [look_append] at e
  split at e
  · rename_i c' e'
    cases Option.some.inj e
    obtain ⟨_, a, i2, i3⟩ := hl₂ j c e'
    exact ⟨a, i2, i3 _⟩
  · obtain ⟨j1, j2, a, i1, i2⟩ := hl₁ j c e
    exact ⟨a, X₂.get i1, (consN_out j1 cks _ _ hcks.2 j2).trans i2⟩
/-- the entering -/
theorem enter_T {f : Addr} {name qual : Str} {params : Arguments} {body : List Stmt} {scope : Scope} {dV kV doc pm cdv ct : Value} {an : Option Addr} {o : Obj} {cl : List (Str × Addr)} {ps : List (Nat × Bool)} {cks : List Nat} {l₁ : List (Nat × Nat)} {d : Mo Fl} {args : Args} {vs : List AV}
    (O : Ok W (n + 1) cx) {ads : List Addr} {ρ : Loc} {σ σ' : Sto} {v : AV} {s : Shared} {R : Result → Shared → Prop} (ho : s.heap.get? f = some o) (hd : o.data = .func (fnX name qual params body scope cl dV kV doc pm an cdv ct)) (hcd : s.heap.CodeRec cdv qual)
    (hbind : ∀ (Q : List (Str × Value) → Shared → Prop) (E : Value → Shared → Prop), (∀ ads' xs h' tk, Ext ads ads' → VRs W.q ads' vs xs → St W cx ads' ρ σ h' → Q ((ps.map fun p => nm p.1).zip xs) { s with heap := h', toks := tk }) → wpAny (model W.prog W.w) cx.A.in1 (bindArgs (fnX name qual params body scope cl dV kV doc pm an cdv ct) args) Q E s)
    (hck : ∀ h, pushCells h scope.names = pushN h cks.length) (hcc : ∀ n acc, cellsFrom n scope.names acc = consN n cks acc) (hcks : cks.Nodup ∧ (∀ k ∈ cks, k < NN))
    (hl₁ : ∀ j c, look l₁ j = some c → j < NN ∧ j ∉ cks ∧ ∃ a, ads[c]? = some a ∧ cl.lookup (nm j) = some a)
    (hps : ∀ p ∈ ps, p.1 < NN ∧ scope.names.lookup (nm p.1) = some (if p.2 then .cell else .local))
    (hbody : ∀ cx' cells, Ok W n cx' → cx'.env = envX qual scope cx'.N f cdv cells → TSs W cx' body d) (he : cellF ps cks l₁ d vs σ = some (v, σ'))
    (hco : scope.isCoroutine = false) (hgen : scope.isGenerator = false) (hk : scope.kind = .function)
    (k : ∀ ads' y h' tk, Ext ads ads' → VR W.q ads' v y → St W cx ads' ρ σ' h' → R (.ok (.ret y)) { s with heap := h', toks := tk }) :
    codeAny (model W.prog W.w) cx.A (.call (.ref f) args) R s := by
  unfold cellF at he
  split at he
  · rename_i l₂ σ₁ e1
    split at he
    · rename_i u ρ₂ σ₂ e2
      refine codeAny_call_function (by have := O.dp; lia) ho hd hco hgen rfl hcd (hbind _ _ fun ads₀ xs h₀ tk₀ X₀ hv S => ?_)
      have hl₁ : ∀ j c, look l₁ j = some c → j < NN ∧ j ∉ cks ∧ ∃ a, ads₀[c]? = some a ∧ cl.lookup (nm j) = some a := fun j c e => by
        obtain ⟨j1, j2, a, i1, i2⟩ := hl₁ j c e
        exact ⟨j1, j2, a, X₀.get i1, i2⟩
      replace k := fun ads' y h' tk (X : Ext ads₀ ads') => k ads' y h' tk (X₀.trans X)
      replace hbind := ()
      generalize hs₀ : ({ s with heap := h₀, toks := tk₀ } : Shared) = s₀ at k ⊢
      have S : St W cx ads₀ ρ σ s₀.heap := by rw [← hs₀]; exact S
      replace k : ∀ ads' y h' tk, Ext ads₀ ads' → VR W.q ads' v y → St W cx ads' ρ σ' h' → R (.ok (.ret y)) { s₀ with heap := h', toks := tk } := fun ads' y h' tk X r S' => by rw [← hs₀]; exact k ads' y h' tk X r S'
      obtain ⟨m, F, hm⟩ := S.open
      obtain ⟨st, _, FG⟩ := S.hide F
      show wpAny _ cx.A.in1 (newFunctionEnv scope mainGlobals cl ((ps.map fun p => nm p.1).zip xs) (qual ++ ".<locals>.") (some f) cdv none builtinsNs) _ _ s₀
      have hCn : ∀ b o, s₀.heap.get? b = some o → b ≠ s₀.heap.objs.size := fun b o e => Nat.ne_of_lt (Heap.lt_size e)
      generalize henv : envX qual scope s₀.heap.objs.size f cdv (consN (s₀.heap.objs.size + 1) cks cl) = env
      have hsc : env.scope = scope := henv ▸ rfl
      have O' : Ok W n ⟨cx.A.deeper env, hideAll s₀.heap ads₀, s₀.heap.objs.size, env, [], []⟩ := henv ▸ O.push S rfl rfl hk rfl rfl rfl (Nat.le_refl _)
      have O'' : Ok W n ⟨cx.A.in1, hideAll s₀.heap ads₀, s₀.heap.objs.size, env, [], []⟩ := by
        have nN : cx.N ∉ ads₀ := fun q => (S.new _ q).1 rfl
        have OB : Ok W n ⟨cx.A, hideAll s₀.heap ads₀, s₀.heap.objs.size, env, [], []⟩ := (O.le (Nat.le_succ n)).block S nN (fun a ha => (S.new a ha).2.1) (fun p hp => (S.pv p (List.mem_append_right _ hp)).2.2.1) [] (henv ▸ rfl) (hsc ▸ hk) (henv ▸ rfl) (henv ▸ rfl)
        exact ⟨OB.hh, OB.dp, by have := O.un; show cx.A.units + 1 + 8 * n + 100 < _; lia, OB.kin, OB.top, OB.loc, OB.fk, OB.gl, OB.bi, OB.hq, OB.fr⟩
      have S₁ : St W ⟨cx.A.in1, hideAll s₀.heap ads₀, s₀.heap.objs.size, env, [], []⟩ ads₀ ⟨[], []⟩ σ (s₀.heap.push { cls := .type "frame", data := .dict #[] }) := by
        refine ⟨⟨_, ⟨Heap.Ns.new s₀.heap (.type "frame"), fun b o e => Heap.get?_push_of_some _ (of_hideAll _ e), Nat.le_of_eq (hideAll_size _ _)⟩, (fun k v e => by cases e)⟩, (fun k c e => by cases e), S.nd, S.len, fun a ha => ?_, fun k ao e => ?_, fun p hp => absurd (show p ∈ ([] : List (Addr × Obj)) from hp) List.not_mem_nil⟩
        · obtain ⟨_, _, o', e⟩ := S.new a ha
          exact ⟨hCn _ _ e, hideAll_none _ ha, o', Heap.get?_push_of_some _ e⟩
        · obtain ⟨a, o', e1, e2, e3⟩ := S.obj k ao e
          exact ⟨a, o', e1, Heap.get?_push_of_some _ e2, e3⟩
      refine frame_T henv.symm O'' S₁ hck hcc hcks hl₁ hps hv e1 e2 fun ads₄ h₄ tk₄ X₄ S₄ => ⟨?_, codeAny_func ?_⟩
      · obtain ⟨m₄, F₄, _⟩ := S₄.open
        exact (O'.top.nolimit).keeps F₄.keep
      · unfold outF at he
        split at he
        · rename_i u' ρ₅ σ₅ eb
          cases he
          refine hbody _ _ O' henv.symm ads₄ _ _ _ _ _ eb { s₀ with heap := h₄, toks := tk₄ } _ _ (S₄.otherA _) fun ads₅ fl h₅ tk₅ X₅ r₅ S₅ => ?_
          obtain ⟨x, rfl, rx⟩ := r₅
          exact k ads₅ x h₅ tk₅ (X₄.trans X₅) rx (S.back rfl S₅ (X₄.trans X₅))
        · rename_i ρ₅ σ₅ eb
          cases Option.some.inj he
          refine hbody _ _ O' henv.symm ads₄ _ _ _ _ _ eb { s₀ with heap := h₄, toks := tk₄ } _ _ (S₄.otherA _) fun ads₅ fl h₅ tk₅ X₅ r₅ S₅ => ?_
          subst r₅
          exact k ads₅ _ h₅ tk₅ (X₄.trans X₅) rfl (S.back rfl S₅ (X₄.trans X₅))
        · exact nos he
    · exact nos he
  · exact nos he
end

section
variable {W : Wo} {cx : Cx} {n : Nat}
theorem St.inA {ads : List Addr} {ρ : Loc} {σ : Sto} {h : Heap} (S : St W cx ads ρ σ h) (O : Ok W n cx) : W.K.In h := by
  obtain ⟨m, F, _⟩ := S.open
  exact O.kin.keeps F.keep
/-- a written def with cells -/
theorem SC_cell {f : Addr} {name qual : Str} {params : Arguments} {body : List Stmt} {scope : Scope} {dV kV doc pm cdv ct oc : Value} {an od : Option Addr} {osl : Array (Option Value)} {ps : List (Nat × Bool)} {cks : List Nat} {d : Mo Fl} (kws : List Str)
    (ho : W.K.lookup f = some ⟨oc, od, .func (fnOf name qual params body scope dV kV doc pm an cdv ct), osl⟩) (hcd : codeIn W.K cdv qual = true)
    (hbind : ∀ (s : Shared) (xs : List Value), W.K.In s.heap → xs.length = ps.length → BindsTo s (fnOf name qual params body scope dV kV doc pm an cdv ct) (argsOf kws xs) ((ps.map fun p => nm p.1).zip xs))
    (hck : ∀ h, pushCells h scope.names = pushN h cks.length) (hcc : ∀ n acc, cellsFrom n scope.names acc = consN n cks acc) (hcks : cks.Nodup ∧ (∀ k ∈ cks, k < NN))
    (hps : ∀ p ∈ ps, p.1 < NN ∧ scope.names.lookup (nm p.1) = some (if p.2 then .cell else .local))
    (hbody : ∀ cx' cells, Ok W n cx' → cx'.env = envX qual scope cx'.N f cdv cells → TSs W cx' body d)
    (hco : scope.isCoroutine = false := by rfl) (hgen : scope.isGenerator = false := by rfl) (hk : scope.kind = .function := by rfl) : SC W (n + 1) (.ref f) kws (cellF ps cks [] d) := by
  intro cx O ads vs xs hv ρ σ v σ' hd s R S k
  have X := S.inA O
  have hlen : ps.length = xs.length := by
    have hd' := hd
    unfold cellF at hd'
    split at hd'
    · split at hd'
      · rename_i e2
        exact (bindM_len e2).trans (VRs.length hv)
      · exact nos hd'
    · exact nos hd'
  refine enter_T (cl := []) O (X _ _ ho) rfl (codeRec_of X hcd) (fun Q E hq => hbind s xs X hlen.symm _ _ _ _ (hq ads xs s.heap s.toks (.refl _) hv S)) hck hcc hcks (fun j c e => by cases e) hps hbody hd hco hgen hk k
/-- a written def with **kw, none given -/
noncomputable def kwF (ps : List (Nat × Bool)) (d : Mo Fl) : List AV → Sto → Option (AV × Sto) := fun vs σ => match σ.new (.dict []) with
  | some (k, σ₁) => cellF ps [] [] d (vs ++ [.kref k]) σ₁
  | none => none
theorem SC_kw {f : Addr} {name qual : Str} {params : Arguments} {body : List Stmt} {scope : Scope} {dV kV doc pm cdv ct oc : Value} {an od : Option Addr} {osl : Array (Option Value)} {ps : List (Nat × Bool)} {d : Mo Fl}
    (ho : W.K.lookup f = some ⟨oc, od, .func (fnOf name qual params body scope dV kV doc pm an cdv ct), osl⟩) (hcd : codeIn W.K cdv qual = true)
    (hbind : ∀ (xs : List Value), xs.length + 1 = ps.length → bindArgs (fnOf name qual params body scope dV kV doc pm an cdv ct) ⟨xs, []⟩ = (do let d ← alloc { cls := .type "dict", data := .dict #[] }; pure ((ps.map fun p => nm p.1).zip (xs ++ [.ref d]))))
    (hck : ∀ h, pushCells h scope.names = pushN h 0) (hcc : ∀ n acc, cellsFrom n scope.names acc = consN n [] acc)
    (hps : ∀ p ∈ ps, p.1 < NN ∧ scope.names.lookup (nm p.1) = some (if p.2 then .cell else .local))
    (hbody : ∀ cx' cells, Ok W n cx' → cx'.env = envX qual scope cx'.N f cdv cells → TSs W cx' body d)
    (hco : scope.isCoroutine = false := by rfl) (hgen : scope.isGenerator = false := by rfl) (hk : scope.kind = .function := by rfl) : SC W (n + 1) (.ref f) [] (kwF ps d) := by
  intro cx O ads vs xs hv ρ σ v σ' hd s R S k
  have X := S.inA O
  rw [argsOf_nil]
  unfold kwF at hd
  refine gN hd fun kk σ₁ en hd => ?_
  have hlen : ps.length = xs.length + 1 := by
    have hd' := hd
    unfold cellF at hd'
    split at hd'
    · split at hd'
      · rename_i e2
        have := (bindM_len e2).trans (List.length_append ..)
        simp only [this, VRs.length hv]; rfl
      · exact nos hd'
    · exact nos hd'
  refine enter_T (cl := []) (σ := σ₁) (vs := vs ++ [.kref kk]) (cks := []) O (X _ _ ho) rfl (codeRec_of X hcd) (fun Q E hq => ?_) hck hcc ⟨List.nodup_nil, fun _ h => nomatch h⟩ (fun j c e => by cases e) hps hbody hd hco hgen hk k
  rw [show bindArgs (fnX name qual params body scope [] dV kV doc pm an cdv ct) ⟨xs, []⟩ = _ from hbind xs hlen.symm]
  refine wpAny_bind (wpAny_alloc (wpAny_pure ?_))
  obtain ⟨S', X', he⟩ := S.alloc (h' := s.heap.push { cls := .type "dict", data := .dict #[] }) (fun b o e => Heap.get?_push_of_some _ e) (heap_fresh _) (Heap.get?_push_size _ rfl) (ao := .dict []) ⟨[], 0, rfl, trivial⟩ en
  exact hq _ _ _ s.toks X' (VRs.append (hv.mono X') ⟨⟨_, he, rfl, modules_low (O.top.nolimit.keeps (S.fr.choose_spec.1).keep)⟩, trivial⟩) S'
noncomputable def fItems0 (a : AV) : Mo Fl := fun ρ σ => match a with
  | .kref k => (match σ.get k with | some (.dict []) => some (.next, ρ, σ) | _ => none)
  | _ => none
/-- `for .. in x.items()`, the dict empty -/
theorem sForItems (O : Ok W n cx) {target : Expr} {x : Str} {p ap cp pos : Pos} {body : List Stmt} (i : Nat) (hx : nm i = x) (hk : cx.env.kindOf x = some .local) (hdb : (x == ("__debug__" : Str)) = false)
    (hline : (ap.endLine == cp.line) = true) (hbase : ∀ env, attributeBase (.Name x p) ("items" : Str) env (eval (.Name x p) env) = eval (.Name x p) env := by intro _; rfl)
    (hs : ∀ env y, foldedSetIterable (.Call (.Attribute (.Name x p) "items" ap) [] [] cp) env y = pure y := by intro _ _; rfl) :
    TS W cx (.For target (.Call (.Attribute (.Name x p) "items" ap) [] [] cp) body [] pos) (bnd (dLoc i) fItems0) := by
  intro ads ρ σ v ρ' σ' hd s Q E S k
  refine bnd_elim hd fun a ρ₁ σ₁ e1 hd => ?_
  refine wpAny_For ?_ (hs _)
  refine wpAny_Call_method (T := "dict") (id := "dict.items") (hbase _) rfl hline F.plainAttrs_dict F.slot_dict_items F.type_dict_items ?_
  refine sLoc O i hx hk hdb _ _ _ _ _ _ e1 s _ _ S fun ads₁ y h₁ tk₁ X₁ r₁ S₁ => ?_
  unfold fItems0 at hd
  split at hd
  · split at hd
    · rename_i kk _ e
      cases hd
      obtain ⟨q, eq, rfl, hlow⟩ := r₁
      obtain ⟨q', o, e2, ho, es, m, rfl, rd⟩ := S₁.obj _ _ e
      cases Option.some.inj ((eq).symm.trans e2)
      cases es with
      | cons _ _ => exact rd.elim
      | nil =>
        have hD : ∀ (h' : Heap), h'.get? q = some (dictOf [] m) → h'.DictAt (strKind W.prog W.w) q [] m := fun h' e => ⟨_, #[], e, ⟨rfl, rfl, rfl⟩, rfl, fun _ he => by simp at he, Pairs.nil, List.nodup_nil⟩
        have hsys : (q == sysModules) = false := beq_eq_false_iff_ne.mpr (Nat.ne_of_gt hlow)
        refine ⟨⟨_, ho, rfl⟩, fun b e => by cases e; exact ⟨_, ho, rfl⟩, ?_⟩
        have key : ∀ (Q' : Value → Shared → Prop), (∀ h', h'.get? q = some (dictOf [] m) → h'.IsItemsView h₁.objs.size q → St W cx ads₁ ρ' σ' h' → Q' (.ref h₁.objs.size) { s with heap := h', toks := tk₁ }) →
            wpAny (model W.prog W.w) cx.A (callWith cp (.builtin "dict.items") [.ref q] (backTo cp (starEach [] cx.env)) []) Q' E { s with heap := h₁, toks := tk₁ } := by
          intro Q' hq
          refine callWith_of (P := fun h => W.K.In h) rfl (Kp.builtin) (PySem.evalArgs_none ⟨S₁.inA O, ?_⟩)
          refine call_meetsIn F.slot_dict_items ⟨_, ho, rfl⟩ F.entry_dict_items (F.args_dict_items_1 _) (meets_dict_items (strKind W.prog W.w) q hsys) ⟨⟨[], _, #[], m, ho, ⟨rfl, rfl, rfl⟩, rfl, fun _ he => by simp at he, Pairs.nil, List.nodup_nil⟩, ?_⟩
          exact hq _ (Heap.get?_push_of_some _ ho) ⟨_, Heap.get?_push_size _ rfl, rfl, rfl⟩ (S₁.grow fun b o e => Heap.get?_push_of_some _ e)
        refine key _ fun h₂ hq hv S₂ => ?_
        refine wpAny_pyIter_items hv (hD h₂ hq) ?_
        refine codeAny_forLoop_any (fun _ s' => s' = { s with heap := h₂.push { cls := .type "dict_itemiterator", data := .fields #[.none, .bool false, .ref q, .int 0 0, .int ([] : List (Str × Value)).length 0, .int m 0, .none, .none] }, toks := tk₁ }) ?_ 0 rfl
        rintro _ s' rfl
        refine wpAny_pyNext_items_end (kvs := []) O.hh (Heap.get?_push_size _ rfl) (hD _ (Heap.get?_push_of_some _ hq)) rfl fun h₃ hs₃ => ?_
        refine wpAny_execs_nil (k ads₁ _ h₃ tk₁ X₁ rfl ?_)
        exact S₂.grow fun b o e => hs₃ b o (Nat.ne_of_lt (Heap.lt_size e)) (Heap.get?_push_of_some _ e)
    · exact nos hd
  · exact nos hd
end

theorem swapped_of {env : Env} {S : Scope} {ts : List Expr} {v : Expr} {r : Sem (Option (List Str))} (h : env.scope = S) (e : ∀ e' : Env, swappedStores ts v { e' with scope := S } = r) : swappedStores ts v env = r := by subst h; exact e env
theorem swaps_of {env : Env} {S : Scope} {v : Expr} {t : Option Expr} {l : Nat} {r : Sem Bool} (h : env.scope = S) (e : ∀ e' : Env, swapsWith v t l { e' with scope := S } = r) : swapsWith v t l env = r := by subst h; exact e env
section
variable {W : Wo} {cx : Cx} {n : Nat}
theorem sCAttrS (O : Ok W n cx) {C : Addr} {x attr y : Str} {xp pos : Pos} {mc : Value} {l : List Nat} (h : TE W cx (.Name x xp) (ret (.wr (.ref C)))) (hm : typeIn W.K (.ref C) = some mc) (hr : readsIn W.K C mc = true)
    (e : ∃ t, findCls W.K (.ref C) mc attr = some (.val (.str y t))) (hy : y = strN l)
    (he : ∀ env, eval (.Attribute (.Name x xp) attr pos) env = (do
      let o ← eval (.Name x xp) env
      standAt pos.atName
      let r ← holding [o] (getAttr o attr true)
      letTemporaryGo (.Name x xp) o r
      pure r) := by intro _; rfl) : TE W cx (.Attribute (.Name x xp) attr pos) (ret (.str l)) := by
  obtain ⟨t, e⟩ := e
  exact sCAttr O h hm hr e rfl (fun _ => ⟨t, by rw [hy]⟩) he
end

section
variable {W : Wo} {cx : Cx} {n : Nat}
theorem sDebug {pos : Pos} : TB W cx (.Name "__debug__" pos) (ret true) := by
  intro ads ρ σ v ρ' σ' hd s Q E S k
  cases hd
  refine wpAny_isTrue_value (whole := eval (.Name "__debug__" pos) cx.env) ?_ rfl
  simp only [arm_eval_Name]
  refine wpAny_bind (wpAny_standAt ?_)
  rw [if_pos (by decide)]
  unfold debugConstant
  exact wpAny_bind (wpAny_rule (wpAny_pure (wpAny_truthy_bool (k ads _ s.heap s.toks (.refl _) rfl S))))
theorem sTy {e : Expr} (k : Nat) {nm : String} (h : TE W cx e (ret (.wr (.type nm)))) (hn : tyS k = nm) : TE W cx e (ret (.ty k)) := by
  intro ads ρ σ v ρ' σ' hd s Q E S kk
  cases hd
  exact h ads _ _ _ _ _ rfl s Q E S fun ads' b h' tk X r S' => kk ads' b h' tk X (by cases r; show _ = _; rw [hn]) S'
/-- a number of the module -/
theorem sNumG {e : Expr} {i : Int} (h : ∃ t, TE W cx e (ret (.wr (.int i t)))) : TE W cx e (ret (.lin 0 i)) := by
  obtain ⟨t, h⟩ := h
  intro ads ρ σ v ρ' σ' hd s Q E S kk
  cases hd
  exact h ads _ _ _ _ _ rfl s Q E S fun ads' b h' tk X r S' => kk ads' b h' tk X (by cases r; exact int0_VR) S'
/-! one sign among signs -/
noncomputable def bdf : List Nat := [98, 100, 102]
noncomputable def inBdf (c : Nat) : Bool := match Nat.beq c 98 with | true => true | false => (match Nat.beq c 100 with | true => true | false => Nat.beq c 102)
noncomputable def fInB (a b : AV) : Mo AV := fun ρ σ => match a, b with
  | .str [c], .str y => match listB y bdf with
    | true => some (.bool (inBdf c), ρ, σ)
    | false => none
  | _, _ => none
theorem inBdf_is (c : Nat) : (!(Builtin.Str.occurrences (strN bdf) (strN [c]) 0 (strN bdf).length 1).isEmpty) = inBdf c := by
  by_cases g0 : c = 98
  · subst g0; kernel_rfl
  by_cases g1 : c = 100
  · subst g1; kernel_rfl
  by_cases g2 : c = 102
  · subst g2; kernel_rfl
  have h0 : Builtin.Str.subAt (strN bdf) (strN [c]) 0 = false := by simp [Builtin.Str.subAt, strN, bdf, Str.length]; exact Ne.symm g0
  have h1 : Builtin.Str.subAt (strN bdf) (strN [c]) 1 = false := by simp [Builtin.Str.subAt, strN, bdf, Str.length]; exact Ne.symm g1
  have h2 : Builtin.Str.subAt (strN bdf) (strN [c]) 2 = false := by simp [Builtin.Str.subAt, strN, bdf, Str.length]; exact Ne.symm g2
  have e : Builtin.Str.occurrences (strN bdf) (strN [c]) 0 (strN bdf).length 1 = [] := by
    unfold Builtin.Str.occurrences
    simp only [strN_len, strN_len, show bdf.length = 3 from rfl, show [c].length = 1 from rfl]
    simp only [Std.Legacy.Range.forIn_eq_forIn_range', Std.Legacy.Range.size]
    show Id.run (do let r ← forIn [0, 1, 2, 3] _ _; _) = _
    simp only [List.forIn_cons, List.forIn_nil, h0, h1, h2]
    rfl
  rw [e]
  simp only [inBdf, beq_dec, decide_eq_false g0, decide_eq_false g1, decide_eq_false g2]
  rfl
theorem oInB : OpR W cx (compareOp .In) fInB := by
  intro ads a b x y ha hb ρ σ v ρ' σ' hd s Q E S k
  unfold fInB at hd
  split at hd
  · rename_i c y
    refine gB hd fun h3 hd => ?_
    replace k := KK.of hd k
    rw [listB_eq] at h3
    cases eq_of_beq h3
    obtain ⟨t, rfl⟩ := ha
    obtain ⟨u, rfl⟩ := hb
    exact PySem.P.in_str (k ads _ s.heap s.toks (.refl _) (congrArg Value.bool (inBdf_is c)) S)
  · exact nos hd
end

section
variable {W : Wo} {cx : Cx} {n : Nat}
/-! reversed, iter, next -/
noncomputable def dRev (vs : List AV) : Mo Src := fun ρ σ => match vs with
  | [.ref k] => (match σ.get k with
    | some (.list l) => some (.rev k ((l.length : Int) - 1), ρ, σ)
    | _ => none)
  | _ => none
theorem sRevd {x : Str} {p pos : Pos} {args : List Expr} {d : Mo (List AV)} (O : Ok W n cx) (hf : TE W cx (.Name x p) (ret (.wr (.type "reversed")))) (h : TA W cx pos args d) (hp : ∀ env, (backTo pos (starEach args env)).any (·.1) = false := by intro _; rfl) :
    TI W cx (.Call (.Name x p) args [] pos) (bnd d dRev) := by
  intro ads ρ σ src ρ' σ' hd s Q E S k
  refine bnd_elim hd fun vs ρ₁ σ₁ e1 hd => ?_
  refine wpAny_Call_NameR (hf _ _ _ _ _ _ rfl s _ _ S fun ads₁ x h₁ tk₁ X₁ r₁ S₁ => ?_)
  subst r₁
  refine callWith_of (P := fun h => W.K.In h) (by simp [hp]) Kp.type ?_
  refine evalArgs_T h (hp _) e1 S₁ fun ads₂ xs h₂ tk₂ X₂ r₂ S₂ => ⟨?_, ?_⟩
  · obtain ⟨m, F, _⟩ := S₂.open
    exact O.kin.keeps F.keep
  unfold dRev at hd
  split at hd
  · split at hd
    · rename_i l e
      cases hd
      obtain ⟨y, rfl, ry⟩ := VRs.one r₂
      obtain ⟨a, o, rfl, ea, ho, vs, m, rfl, rv⟩ := S₂.at ry e
      refine call_reversed_list (l := a) (items := vs.toArray) ⟨_, ho, rfl, _, rfl⟩ ?_
      refine wpAny_pyIter_revIter (l := a) (i := (vs.toArray.size : Int) - 1) ⟨_, Heap.get?_push_size _ rfl, rfl, rfl⟩ ?_
      have hlen := VRs.length rv
      refine k ads₂ _ _ _ tk₂ (X₁.trans X₂) ⟨a, ea, rfl, ?_⟩ (Heap.get?_push_size _ rfl) (S₂.apart (heap_fresh _)) (S₂.grow fun b o e => Heap.get?_push_of_some _ e)
      show Data.fields #[.ref a, rawInt ((vs.toArray.size : Int) - 1)] = _
      rw [hlen]; simp
    · exact nos hd
  · exact nos hd
noncomputable def gIter (a : AV) (σ : Sto) : Option (AV × Sto) := match a with
  | .ref k => match σ.get k with
    | some (.list _) => match σ.new (.liter k 0) with
      | some (k', σ') => some (.ref k', σ')
      | none => none
    | _ => none
  | _ => none
theorem cIter (n : Nat) : Ct1 W n (.builtin "iter") gIter := by
  intro cx O ads a x hv ρ σ v σ' hd s Q E S k
  refine opq fun PP oo => ?_
  unfold gIter at hd
  split at hd
  · split at hd
    · rename_i l e
      refine gN hd fun k' σ₁ en hd => ?_
      refine oo ?_
      cases hd
      obtain ⟨p, o, rfl, ep, ho, vs, m, rfl, rv⟩ := S.at hv e
      refine call_function_entry (by decide +kernel) (by decide +kernel) kdk_entry_iter (kdk_args_iter _) ?_
      unfold Builtin.«iter»
      refine wpAny_bind (m := someArgs "iter" 1 2 _) (wpAny_of_eq (a := [Value.ref p]) (by first | rfl | kernel_rfl!) ?_)
      show wpAny _ _ (pyIter (.ref p) >>= _) _ _ _
      refine wpAny_bind (wpAny_pyIter_list ⟨_, ho, rfl, _, rfl⟩ ?_)
      obtain ⟨S', X, he⟩ := S.alloc (h' := s.heap.push { cls := .type "list_iterator", data := .fields #[.ref p, .int 0 0] }) (fun b o e => Heap.get?_push_of_some _ e) (heap_fresh s.heap) (Heap.get?_push_size _ rfl) (ao := .liter _ 0) ⟨p, ep, rfl, rfl⟩ en
      exact wpAny_pure ⟨_, rfl, k _ _ _ _ X ⟨_, he, rfl⟩ S'⟩
    · exact nos hd
  · exact nos hd
noncomputable def gNext (a : AV) (σ : Sto) : Option (AV × Sto) := match a with
  | .ref k => match σ.get k with
    | some (.liter l i) => match σ.get l with
      | some (.list vs) => match vs[i]? with
        | some v => match σ.put k (.liter l (i + 1)) with
          | some σ' => some (v, σ')
          | none => none
        | none => none
      | _ => none
    | _ => none
  | _ => none
theorem cNext (n : Nat) : Ct1 W n (.builtin "next") gNext := by
  intro cx O ads a x hv ρ σ v σ' hd s Q E S k
  refine opq fun PP oo => ?_
  unfold gNext at hd
  split at hd
  · split at hd
    · rename_i l i e
      split at hd
      · rename_i vs el
        split at hd
        · rename_i u eu
          split at hd
          · rename_i σ₁ ep
            refine oo ?_
            cases Option.some.inj hd
            obtain ⟨it, oi, rfl, eit, ho, la, ela, hc, hdd⟩ := S.at hv e
            obtain ⟨la', ol, e2, hol, xs, m, rfl, rv⟩ := S.obj _ _ el
            cases (ela).symm.trans e2
            obtain ⟨y, ey, ry⟩ := rv.get eu
            have hT : s.TypeIs (.ref it) "list_iterator" := ⟨_, ho, hc⟩
            refine call_function_entry (by decide +kernel) (by decide +kernel) kdk_entry_next (kdk_args_next _) ?_
            unfold Builtin.«next»
            refine wpAny_bind (m := someArgs "next" 1 2 _) (wpAny_of_eq (a := [Value.ref it]) (by first | rfl | kernel_rfl!) ?_)
            dsimp only
            refine wpAny_bind (wpAny_specialOf (name := Str.ofString "__next__") hT slot_listiter_next.lookup ?_)
            refine wpAny_ite_split (fun hab => absurd hab (by decide)) (fun _ => ?_)
            refine wpAny_bind (wpAny_callSpecial?_slot (name := Str.ofString "__next__") hT slot_listiter_next
              (wpAny_call_entry slot_listiter_next hT entry_listiter_next ?_ (args_listiter_next _)))
            show wpAny _ _ (field (.ref it) 0 >>= _) _ _ s
            refine wpAny_bind (wpAny_field ho hdd (x := .ref la) rfl ?_)
            show wpAny _ _ (if (Value.ref la == Value.none) = true then _ else _) _ _ s
            rw [if_neg (show ¬ ((Value.ref la == Value.none) = true) from Bool.false_ne_true)]
            show wpAny _ _ (field (.ref it) 1 >>= _) _ _ s
            refine wpAny_bind (wpAny_field ho hdd (x := .int i 0) rfl ?_)
            show wpAny _ _ (seqItems? (.ref la) >>= _) _ _ s
            refine wpAny_bind (wpAny_seqItems hol rfl ?_)
            have ey' : (xs.toArray)[i]? = some y := by simpa using ey
            simp only [Int.toNat_natCast, ey']
            refine wpAny_bind (wpAny_setField ho hdd (by simp) (wpAny_pure ⟨y, rfl, wpAny_pure ⟨y, rfl, ?_⟩⟩))
            have ho' : (s.heap.update it (Obj.mapFields (·.setIfInBounds 1 (rawInt ((i : Int) + 1))))).get? it = some (Obj.mapFields (·.setIfInBounds 1 (rawInt ((i : Int) + 1))) oi) := Heap.get?_update_self _ ho (Obj.isFreed_of_fields (Obj.data_mapFields hdd _))
            exact k ads _ _ s.toks (.refl _) ry (S.upd (ao := .liter l (i + 1)) eit (Heap.SameBut.update ..).extBut ho' ⟨la, ela, (Obj.cls_mapFields ..).trans hc, by rw [Obj.data_mapFields hdd]; simp [rawInt]⟩ ep)
          · exact nos hd
        · exact nos hd
      · exact nos hd
    · exact nos hd
  · exact nos hd
/-! telling the same things otherwise -/
theorem St.re {ads : List Addr} {ρ ρ' : Loc} {σ σ' : Sto} {h : Heap} (S : St W cx ads ρ σ h) (hl : ∀ k v', look ρ'.loc k = some v' → ∃ v, look ρ.loc k = some v ∧ ∀ x, VR W.q ads v x → VR W.q ads v' x) (hc : ∀ k c, look ρ'.cel k = some c → look ρ.cel k = some c) (hn : σ'.next = σ.next)
    (ho : ∀ k ao', σ'.get k = some ao' → ∃ ao, σ.get k = some ao ∧ ∀ o, ORw W ads ao o → ORw W ads ao' o) : St W cx ads ρ' σ' h := by
  obtain ⟨m, F, hm⟩ := S.open
  refine ⟨⟨m, F, fun k v' e => ?_⟩, fun k c e => S.cel k c (hc k c e), S.nd, hn.trans S.len, S.new, fun k ao' e => ?_, S.pv⟩
  · obtain ⟨v, e1, e2⟩ := hl k v' e
    obtain ⟨hk, x, e3, e4⟩ := hm k v e1
    exact ⟨hk, x, e3, e2 x e4⟩
  · obtain ⟨ao, e1, e2⟩ := ho k ao' e
    obtain ⟨a, o, e3, e4, e5⟩ := S.obj k ao e1
    exact ⟨a, o, e3, e4, e2 o e5⟩
theorem St.re1 {ads : List Addr} {ρ : Loc} {σ σ' : Sto} {h : Heap} {k : Nat} {ao ao' : AO} (S : St W cx ads ρ σ h) (e : σ.get k = some ao) (hp : σ.put k ao' = some σ') (ho : ∀ o, ORw W ads ao o → ORw W ads ao' o) : St W cx ads ρ σ' h := by
  refine S.re (fun k v' e => ⟨v', e, fun _ h => h⟩) (fun _ _ e => e) (Sto.put_get hp 0).1 fun j ao₁ e₁ => ?_
  rw [(Sto.put_get hp j).2] at e₁
  by_cases q : j = k
  · subst q
    replace e₁ := (if_pos rfl).symm.trans e₁
    cases Option.some.inj e₁
    exact ⟨ao, e, ho⟩
  · replace e₁ := (if_neg q).symm.trans e₁
    exact ⟨ao₁, e₁, fun _ h => h⟩
end

/-! what the hand-made parts answer -/
noncomputable def leB (n : Nat) (x : Int) : Bool := match x with | .ofNat m => Nat.ble m n | .negSucc m => Nat.blt m n
noncomputable def nnB (n : Nat) (x : Int) : Bool := match x with | .ofNat m => Nat.ble m n | .negSucc _ => false
noncomputable def newTup (l : List AV) (σ : Sto) : Option (AV × Sto) := match σ.new (.tup l) with
  | some (k, σ') => some (.ref k, σ')
  | none => none
/-- such a made thing there -/
noncomputable def isFnO (o : Option AO) (i : Nat) (l : List Nat) : Bool := match o with
  | some (.fn j m) => Nat.beq j i && decide (m = l)
  | _ => false
/-- a code table at t, filled: its code's number -/
noncomputable def tabC (o : Option AO) : Nat := match o with
  | some (.fn _ (_ :: c :: _)) => c
  | _ => 0
noncomputable def tabF (σ : Sto) (t iT iC : Nat) : Bool := isFnO (σ.get t) iT [t, tabC (σ.get t)] && isFnO (σ.get (tabC (σ.get t))) iC []
noncomputable def okIdm (a b c d : Int) : Bool := isZ c && !isZ d && leB 1000 d && isZ (Int.emod a d) && leB 1000 a && leB 268435456 b
/-- both code tables filled -/
noncomputable def fillT (σ : Sto) : Option (Nat × Nat × Sto) := match σ.new (.fn 1 []) with
  | some (c0, σ₁) => match σ₁.put 0 (.fn 0 [0, c0]) with
    | some σ₂ => match σ₂.new (.fn 4 []) with
      | some (c1, σ₃) => match σ₃.put 1 (.fn 3 [1, c1]) with
        | some σ₄ => some (c0, c1, σ₄)
        | none => none
      | none => none
    | none => none
  | none => none
/-- int_divmod: store entries 0 and 1 are the two code tables -/
noncomputable def gIdm (a b : AV) (σ : Sto) : Option (AV × Sto) := match a, b with
  | .lin a b, .lin c d => match okIdm a b c d && Nat.ble σ.next 900000 with
    | true => match tabF σ 0 0 1 && tabF σ 1 3 4 with
      | true => newTup [.lin (Int.ediv a d) (Int.fdiv b d), .lin 0 (Int.fmod b d)] σ
      | false => match isFnO (σ.get 0) 0 [0] && isFnO (σ.get 1) 3 [1] with
        | true => match fillT σ with
          | some (_, _, σ₄) => newTup [.lin (Int.ediv a d) (Int.fdiv b d), .lin 0 (Int.fmod b d)] σ₄
          | none => none
        | false => none
    | false => none
  | _, _ => none
noncomputable def F_int_divmod := f2 gIdm
/-- _law_octets -/
noncomputable def gOct (a : AV) (σ : Sto) : Option (AV × Sto) := match a with
  | .lin a b => match nnB 1000 a, nnB 268435456 b with
    | true, true => some (.txt [.oct a b], σ)
    | _, _ => none
  | _ => none
noncomputable def F_law_octets := f1 gOct
/-- [ord(sign) for sign in text] -/
noncomputable def fOrds (a : AV) : Mo AV := fun ρ σ => match a with
  | .txt l => (match Nat.ble (tlen l) 1000000 with
    | true => (match σ.new (.pints l) with
      | some (k, σ') => some (.ref k, ρ, σ')
      | none => none)
    | false => none)
  | _ => none
/-- iter over octets -/
noncomputable def gIterP (a : AV) (σ : Sto) : Option (AV × Sto) := match a with
  | .ref k => match σ.get k with
    | some (.pints _) => match σ.new (.piter k []) with
      | some (k', σ') => some (.ref k', σ')
      | none => none
    | _ => none
  | _ => none
/-- what is left behind the pieces read -/
noncomputable def dropP : List Pc → List Pc → Option (List Pc)
  | r, [] => some r
  | .oct a b :: r, .oct c d :: r' => match intB a c, intB b d with
    | true, true => dropP r r'
    | _, _ => none
  | _, _ => none
/-- _parse_varint -/
noncomputable def gVar (a : AV) (σ : Sto) : Option (AV × Sto) := match a with
  | .ref k => match σ.get k with
    | some (.piter l done) => match σ.get l with
      | some (.pints ps) => match dropP ps done with
        | some (.oct a b :: _) => match nnB 1000 a, nnB 268435456 b, Nat.blt l 1000000, σ.put k (.piter l (done ++ [.oct a b])) with
          | true, true, true, some σ' => some (.lin a b, σ')
          | _, _, _, _ => none
        | _ => none
      | _ => none
    | _ => none
  | _ => none
noncomputable def F_parse_varint := f1 gVar
/-- _law_ends: at the end it answers True -/
noncomputable def gEnds (a : AV) (σ : Sto) : Option (AV × Sto) := match a with
  | .ref k => match σ.get k with
    | some (.piter l done) => match σ.get l with
      | some (.pints ps) => match dropP ps done with
        | some [] => match σ.put k .dead with
          | some σ' => some (.bool true, σ')
          | none => none
        | _ => none
      | _ => none
    | _ => none
  | _ => none
noncomputable def F_law_ends := f1 gEnds

section
variable {W : Wo} {cx : Cx} {n : Nat}
theorem new_some {σ σ' : Sto} {o : AO} {k : Nat} (h : σ.new o = some (k, σ')) (o' : AO) : ∃ σ₂, σ.new o' = some (k, σ₂) ∧ k < 1000000 := by
  unfold Sto.new Sto.put at h ⊢
  cases hb : Nat.blt σ.next 1000000 with
  | true =>
    simp only [hb] at h ⊢
    cases Option.some.inj h
    exact ⟨_, rfl, Nat.le_of_ble_eq_true hb⟩
  | false =>
    simp only [hb] at h
    exact nos h
theorem put_some (σ : Sto) {k : Nat} (hk : k < 1000000) (o : AO) : ∃ σ', σ.put k o = some σ' := by
  unfold Sto.put
  simp only [show Nat.blt k 1000000 = true from Nat.ble_eq_true_of_le hk]
  exact ⟨_, rfl⟩
noncomputable abbrev lin0 (c : Nat) : AV := int0 c
theorem IntsAre.nats {q : Int} {ads : List Addr} : ∀ {x : List Nat} {vs : List Value}, IntsAre vs (x.map Int.ofNat) → VRs q ads (x.map lin0) vs
  | [], vs, h => by cases h; trivial
  | c :: x, vs, h => by
    cases h with
    | cons i t h => exact ⟨int0_VR, IntsAre.nats h⟩
theorem VRs.nats {q : Int} {ads : List Addr} : ∀ {x : List Nat} {vs : List Value}, VRs q ads (x.map lin0) vs → IntsAre vs (x.map Int.ofNat)
  | [], [], _ => .nil
  | c :: x, v :: vs, ⟨⟨t, h⟩, r⟩ => by
    rw [Int.zero_mul, Int.zero_add] at h
    subst h
    exact .cons _ t (VRs.nats r)
  | [], _ :: _, h => h.elim
  | _ :: _, [], h => h.elim
theorem OR.pints {P : Params} {fs : Nat → List Addr → Obj → Prop} {ts : Nat → Bool → Obj → Prop} {q : Int} {ads : List Addr} {l : List Pc} {o : Obj} : OR q P fs ts ads (.pints l) o ↔ OR q P fs ts ads (.list ((denT q l).map lin0)) o := by
  constructor
  · rintro ⟨vs, n, e, h⟩; exact ⟨vs, n, e, IntsAre.nats h⟩
  · rintro ⟨vs, n, e, h⟩; exact ⟨vs, n, e, VRs.nats h⟩
theorem OR.piter {P : Params} {fs : Nat → List Addr → Obj → Prop} {ts : Nat → Bool → Obj → Prop} {q : Int} {ads : List Addr} {l : Nat} {d : List Pc} {o : Obj} : OR q P fs ts ads (.piter l d) o ↔ OR q P fs ts ads (.liter l (denT q d).length) o := Iff.rfl
/-! ord of each sign of a text -/
noncomputable def ordBody (i : Nat) (acc : AV) : Mo Unit := bnd (bnd (bnd (dLoc i) fun v => bnd (ret []) fun vs => ret (v :: vs)) (apF (f1 gOrd))) fun v => bnd (fApp acc v) fun _ => ret ()
theorem ords_loop (I ka : Nat) (hka : ka < 1000000) : ∀ (m i : Nat) (x : List Nat) (acc : List AV) (ρ : Loc) (σ : Sto), x.length - i = m → σ.get ka = some (.list acc) → acc.length + m ≤ 1000000 →
    ∃ ρ' σ', compM (putL I) (ret true) (ordBody I (.ref ka)) (m + 1) (.chs x i) ρ σ = some ((), ρ', σ') ∧ σ'.get ka = some (.list (acc ++ (x.drop i).map lin0)) ∧ σ'.next = σ.next ∧ ∀ j, j ≠ ka → σ'.get j = σ.get j
  | 0, i, x, acc, ρ, σ, hm, he, hl => by
    have hx : x[i]? = none := List.getElem?_eq_none_iff.mpr (by lia)
    refine ⟨ρ, σ, ?_, ?_, rfl, fun _ _ => rfl⟩
    · dsimp only [compM]; simp only [nextS, hx]
    · rw [List.drop_eq_nil_of_le (by lia)]; simpa using he
  | m + 1, i, x, acc, ρ, σ, hm, he, hl => by
    have hi : i < x.length := by lia
    have hx : x[i]? = some x[i] := List.getElem?_eq_getElem hi
    obtain ⟨σ₁, ep⟩ := put_some σ hka (.list (acc ++ [lin0 x[i]]))
    have hg := Sto.put_get ep
    obtain ⟨ρ', σ', r1, r2, r3, r4⟩ := ords_loop I ka hka m (i + 1) x (acc ++ [lin0 x[i]]) { ρ with loc := lput ρ.loc I (.str [x[i]]) } σ₁ (by lia) (by exact (ifp (hg ka).2 rfl)) (by simp; lia)
    refine ⟨ρ', σ', ?_, ?_, r3.trans (hg 0).1, fun j hj => (r4 j hj).trans (by exact (ife (hg j).2 hj))⟩
    · dsimp only [compM]
      rw [nextS, hx]
      have hlk : look (lput ρ.loc I (.str [x[i]])) I = some (.str [x[i]]) := by rw [look_lput, if_pos rfl]
      have hble : Nat.ble acc.length 1000000 = true := Nat.ble_eq_true_of_le (by lia)
      have e1 : ordBody I (.ref ka) { ρ with loc := lput ρ.loc I (.str [x[i]]) } σ = some ((), { ρ with loc := lput ρ.loc I (.str [x[i]]) }, σ₁) := by
        simp only [ordBody, bnd, dLoc, hlk, ret, apF, f1, gOrd, fApp, he, hble]
        simp only [ep]
      simp only [bnd, putL, ret, e1]
      exact r1
    · simp only [r2, List.drop_eq_getElem_cons hi, List.map_cons, List.append_assoc]; rfl
theorem sOrds {e : Expr} (T I : Nat) (h : ∀ fuel, TE W cx e (dComp [] [] (bnd (dLoc T) dSrc) (lp1 (putL I) (ret true) (bnd (bnd (dLoc I) fun v => bnd (ret []) fun vs => ret (v :: vs)) (apF (f1 gOrd))) fuel))) :
    TE W cx e (bnd (dLoc T) fOrds) := by
  intro ads ρ σ v ρ' σ' hd s Q E S k
  refine opq fun PP oo => ?_
  refine bnd_elim hd fun t ρ₀ σ₀ e0 hd => ?_
  unfold dLoc at e0
  split at e0
  · rename_i t' et
    refine oo ?_
    cases Option.some.inj e0
    unfold fOrds at hd
    split at hd
    · rename_i l
      refine gB hd fun hl hd => ?_
      refine gN hd fun k' σ₁ en hd => ?_
      replace k := KK.of hd k
      have hl := Nat.le_of_ble_eq_true hl
      have hden : (denT W.q l).length ≤ 1000000 := Nat.le_trans (denT_len W.q l) hl
      obtain ⟨σ₂, en2, hk'⟩ := new_some en (.list [])
      have g2 := Sto.new_get en2
      obtain ⟨ρ₃, σ₃, r1, r2, r3, r4⟩ := ords_loop I k' hk' (denT W.q l).length 0 (denT W.q l) [] ⟨[], []⟩ σ₂ (by lia) (by exact (ifp (g2 k').2.2 rfl)) (by simpa using hden)
      have S₁ : St W cx ads { ρ with loc := lput ρ.loc T (.str (denT W.q l)) } σ s.heap := by
        refine S.re (fun j v' e => ?_) (fun _ _ e => e) rfl (fun j ao e => ⟨ao, e, fun _ h => h⟩)
        rw [look_lput] at e
        by_cases q : T = j
        · subst q
          replace e := (if_pos rfl).symm.trans e
          cases Option.some.inj e
          exact ⟨_, et, fun _ h => h⟩
        · replace e := (if_neg q).symm.trans e
          exact ⟨v', e, fun _ h => h⟩
      refine h ((denT W.q l).length + 1) ads { ρ with loc := lput ρ.loc T (.str (denT W.q l)) } σ (.ref k') { ρ with loc := lput ρ.loc T (.str (denT W.q l)) } σ₃ ?_ s Q E S₁ fun ads' b h' tk X r S' => ?_
      · dsimp only [dComp]
        have hlk : look (lput ρ.loc T (.str (denT W.q l))) T = some (.str (denT W.q l)) := by rw [look_lput, if_pos rfl]
        simp only [bnd, dLoc, hlk, dSrc, en2, celsOf, ownCells, lp1, srcFwd, List.append_nil]
        have r1' := r1
        simp only [ordBody, bnd, dLoc] at r1'
        simp only [r1']
      · refine k ads' b h' tk X r (S'.re (fun j v' e => ?_) (fun _ _ e => e) ?_ fun j ao e => ?_)
        · show ∃ v, look (lput ρ.loc T (.str (denT W.q l))) j = some v ∧ _
          rw [look_lput]
          by_cases q : T = j
          · subst q
            rw [et] at e
            cases Option.some.inj e
            exact ⟨_, if_pos rfl, fun _ h => h⟩
          · exact ⟨v', by rw [if_neg q]; exact e, fun _ h => h⟩
        · simp only [(Sto.new_get en 0).2.1, r3, (g2 0).2.1]
        · rw [(Sto.new_get en j).2.2] at e
          by_cases q : j = k'
          · replace q := q.symm; subst q
            replace e := (if_pos rfl).symm.trans e
            cases Option.some.inj e
            exact ⟨_, r2, fun o ho => OR.pints.mpr (ho)⟩
          · replace e := (if_neg q).symm.trans e
            exact ⟨ao, by rw [r4 j q, (g2 j).2.2, if_neg q]; exact e, fun _ h => h⟩
    · exact nos hd
  · refine oo ?_
    exact nos e0
theorem cIterP (n : Nat) : Ct1 W n (.builtin "iter") gIterP := by
  intro cx O ads a x hv ρ σ v σ' hd s Q E S k
  refine opq fun PP oo => ?_
  unfold gIterP at hd
  split at hd
  · split at hd
    · rename_i l e
      split at hd
      · rename_i k' σ₁ en
        refine oo ?_
        cases Option.some.inj hd
        obtain ⟨p, o, rfl, ep, ho, vs, m, rfl, rv⟩ := S.at hv e
        refine call_function_entry (by decide +kernel) (by decide +kernel) kdk_entry_iter (kdk_args_iter _) ?_
        unfold Builtin.«iter»
        refine wpAny_bind (m := someArgs "iter" 1 2 _) (wpAny_of_eq (a := [Value.ref p]) (by first | rfl | kernel_rfl!) ?_)
        show wpAny _ _ (pyIter (.ref p) >>= _) _ _ _
        refine wpAny_bind (wpAny_pyIter_list ⟨_, ho, rfl, _, rfl⟩ ?_)
        obtain ⟨S', X, he⟩ := S.alloc (h' := s.heap.push { cls := .type "list_iterator", data := .fields #[.ref p, .int 0 0] }) (fun b o e => Heap.get?_push_of_some _ e) (heap_fresh s.heap) (Heap.get?_push_size _ rfl) (ao := .piter _ []) ⟨p, ep, rfl, rfl⟩ en
        exact wpAny_pure ⟨_, rfl, k _ _ _ _ X ⟨_, he, rfl⟩ S'⟩
      · exact nos hd
    · exact nos hd
  · exact nos hd
/-- an assignment of a comprehension to a cell -/
theorem sAsgN {t value : Expr} {pos : Pos} {d : Mo AV} {g : AV → Mo Unit} (hv : TE W cx value d) (ht : TG W cx t g) (hs : swapsWith value (some t) pos.line cx.env = pure false)
    (he : ∀ env, (assignEach [t] env).map (·.2) = [assign t env] := by intro _; rfl) (hw : ∀ env, swappedStores [t] value env = pure none := by intro _; rfl) :
    TS W cx (.Assign [t] value pos) (bnd d fun v => bnd (g v) fun _ => ret .next) := by
  intro ads ρ σ v ρ' σ' hd s Q E S k
  refine opq fun PP oo => ?_
  refine bnd_elim hd fun a ρ₁ σ₁ e1 hd => ?_
  refine bnd_elim hd fun u ρ₂ σ₂ e2 hd => ?_
  replace k := KK.of hd k
  refine oo ?_
  refine wpAny_Assign_stores (hv _ _ _ _ _ _ e1 s _ _ S fun ads₁ x h₁ tk₁ X₁ r₁ S₁ => ?_) hs (hw _)
  rw [he]
  show wpAny _ _ (assign t cx.env x) _ _ _
  exact ht ads₁ a x r₁ _ _ _ _ _ e2 _ _ _ S₁ fun ads₃ z h₃ tk₃ X₃ _ S₃ => k ads₃ _ h₃ tk₃ (X₁.trans X₃) rfl S₃
/-! the shift told with the quotient -/
noncomputable def reLoc (i : Nat) (q a b : Int) (d : Mo Fl) : Mo Fl := fun ρ σ => match look ρ.loc i with
  | some (.lin c z) => match isZ c, intB z (a * q + b) with
    | true, true => d { ρ with loc := lput ρ.loc i (.lin a b) } σ
    | _, _ => none
  | _ => none
theorem sReLoc {l : List Stmt} {d : Mo Fl} (i : Nat) {q a b : Int} (hq : W.q = q) (h : TSs W cx l d) : TSs W cx l (reLoc i q a b d) := by
  intro ads ρ σ v ρ' σ' hd s Q E S k
  refine opq fun PP oo => ?_
  unfold reLoc at hd
  split at hd
  · rename_i c z e
    split at hd
    · rename_i h1 h2
      cases isZ_is h1; cases intB_is h2
      refine oo ?_
      refine h ads _ _ _ _ _ hd s Q E (S.re (fun j v' e' => ?_) (fun _ _ e => e) rfl fun j ao e => ⟨ao, e, fun _ h => h⟩) k
      rw [look_lput] at e'
      by_cases hij : i = j
      · replace hij := hij.symm; subst hij
        replace e' := (if_pos rfl).symm.trans e'
        cases Option.some.inj e'
        refine ⟨_, e, ?_⟩
        rintro x ⟨t, rfl⟩
        exact ⟨t, by rw [hq, Int.zero_mul, Int.zero_add]⟩
      · replace e' := (if_neg hij).symm.trans e'
        exact ⟨v', e', fun _ h => h⟩
    · exact nos hd
  · exact nos hd
end

/-- _law_cells -/
noncomputable def addAt : List Int → Nat → Int → List Int
  | [], _, _ => []
  | z :: r, 0, v => (z + v) :: r
  | z :: r, k + 1, v => z :: addAt r k v
noncomputable def cellsZ : List Int → Nat → List Int → List Int
  | [], _, zs => zs
  | v :: r, k, zs => cellsZ r (k + 1) (addAt zs (k % 4) v)
noncomputable def linL : List Int → List AV
  | [] => []
  | z :: r => .lin 0 z :: linL r
/-- _law_cells of the script: a list of the ground, at la -/
noncomputable def gCells (la : Nat) (zs : List Int) (a : AV) (σ : Sto) : Option (AV × Sto) := match a with
  | .wr (.ref x) => match Nat.beq x la, Nat.ble zs.length 63, Nat.ble σ.next 900000 with
    | true, true, true => match σ.new (.list (linL (cellsZ zs 0 [1, 1, 5, 37]))) with
      | some (k', σ') => match σ'.new (.rng 0 0 zs.length) with
        | some (_, σ'') => some (.ref k', σ'')
        | none => none
      | none => none
    | _, _, _ => none
  | _ => none
noncomputable def F_law_cells (la : Nat) (zs : List Int) := f1 (gCells la zs)
noncomputable def fScrLen (la : Nat) (zs : List Int) (a : AV) : Mo AV := fun ρ σ => match a with
  | .wr (.ref x) => match Nat.beq x la, Nat.ble zs.length 63 with
    | true, true => some (.lin 0 zs.length, ρ, σ)
    | _, _ => none
  | _ => none
noncomputable def fScrGet (la : Nat) (zs : List Int) (a i : AV) : Mo AV := fun ρ σ => match a with
  | .wr (.ref x) => match Nat.beq x la, i with
    | true, .lin z b => match isZ z, ixN b with
      | true, some j => match zs[j]? with
        | some v => some (.lin 0 v, ρ, σ)
        | none => none
      | _, _ => none
    | _, _ => none
  | _ => none

/-! defs within defs -/
structure Nest where
  P : Addr
  name : Str
  qual : Str
  params : Arguments
  body : List Stmt
  scope : Scope
  pos : Pos
  fks : List Nat
noncomputable def cloGo : List Nat → List Addr → List (Str × Addr) → List (Str × Addr)
  | k :: ks, c :: cs, acc => cloGo ks cs ((nm k, c) :: acc)
  | _, _, acc => acc
noncomputable def tabP (N : Nest) (cs : List Addr) (o : Obj) : Prop := (cs = [N.P] ∧ o = tabObj #[]) ∨ (∃ c, cs = [N.P, c] ∧ o = tabObj #[rawInt N.pos.line, rawInt N.pos.col, .ref c])
noncomputable def codP (N : Nest) (cs : List Addr) (o : Obj) : Prop := cs = [] ∧ ∃ vs t, o.data = .fields vs ∧ vs[1]? = some (.str N.qual t)
noncomputable def funP (N : Nest) (cs : List Addr) (o : Obj) : Prop := ∃ c cells doc pm ctv, cs = c :: cells ∧ cells.length = N.fks.length ∧ o = fnMade N.name N.qual N.params N.body N.scope (cloGo N.fks cells []) doc pm c ctv
noncomputable def snds : List (Nat × Nat) → List Nat
  | [] => []
  | p :: r => p.2 :: snds r
noncomputable def zipC : List Nat → List Nat → List (Nat × Nat)
  | k :: ks, c :: cs => (k, c) :: zipC ks cs
  | _, _ => []
/-- `def` within a def: its code made once, kept in the table -/
noncomputable def dDef (t idT idC idF : Nat) (fks : List Nat) (x : Nat) : Mo Fl := fun ρ σ => match celsOf ρ fks with
  | some l => match σ.get t with
    | some (.fn i [r, c]) => match Nat.beq i idT, Nat.beq r t, σ.new (.fn idF (c :: snds l)) with
      | true, true, some (k, σ₁) => bnd (putC x (.ref k)) (fun _ => ret .next) ρ σ₁
      | _, _, _ => none
    | some (.fn i [r]) => match Nat.beq i idT, Nat.beq r t, σ.put t .dead with
      | true, true, some σ₁ => match σ₁.new (.fn idC []) with
        | some (c, σ₂) => match σ₂.put t (.fn idT [r, c]) with
          | some σ₃ => match σ₃.new (.fn idF (c :: snds l)) with
            | some (k, σ₄) => bnd (putC x (.ref k)) (fun _ => ret .next) ρ σ₄
            | none => none
          | none => none
        | none => none
      | _, _, _ => none
    | _ => none
  | none => none
noncomputable def cloF (idC : Nat) (ps : List (Nat × Bool)) (cks fks : List Nat) (d : Mo Fl) : List Nat → List AV → Sto → Option (AV × Sto) := fun caps vs σ => match caps with
  | c :: cells => match σ.get c with
    | some (.fn i []) => match Nat.beq i idC, Nat.beq cells.length fks.length with
      | true, true => cellF ps cks (zipC fks cells) d vs σ
      | _, _ => none
    | _ => none
  | [] => none
noncomputable def SV (W : Wo) (n : Nat) (idF : Nat) (G : List Nat → List AV → Sto → Option (AV × Sto)) : Prop :=
  ∀ cx, Ok W n cx → ∀ ads vs xs kf f caps, VRs W.q ads vs xs → ads[kf]? = some f → ∀ ρ σ v σ', σ.get kf = some (.fn idF caps) → G caps vs σ = some (v, σ') → ∀ (s : Shared) (R : Result → Shared → Prop), St W cx ads ρ σ s.heap →
    (∀ ads' y h' tk, Ext ads ads' → VR W.q ads' v y → St W cx ads' ρ σ' h' → R (.ok (.ret y)) { s with heap := h', toks := tk }) → codeAny (model W.prog W.w) cx.A (.call (.ref f) ⟨xs, []⟩) R s
theorem SV.le {W : Wo} {n m idF : Nat} {G : List Nat → List AV → Sto → Option (AV × Sto)} (h : SV W n idF G) (hle : n ≤ m) : SV W m idF G := fun cx O => h cx (O.le hle)
noncomputable def apV (idF : Nat) (G : List Nat → List AV → Sto → Option (AV × Sto)) (a : AV) (vs : List AV) : Mo AV := fun ρ σ => match a with
  | .ref k => match σ.get k with
    | some (.fn i caps) => match Nat.beq i idF with
      | true => match G caps vs σ with
        | some (v, σ') => some (v, ρ, σ')
        | none => none
      | false => none
    | _ => none
  | _ => none
theorem cloGo_lookup {j : Nat} (hj : j < NN) : ∀ (ks : List Nat) (cs : List Addr) (acc : List (Str × Addr)), (∀ k ∈ ks, k < NN) → j ∉ ks → (cloGo ks cs acc).lookup (nm j) = acc.lookup (nm j)
  | [], [], acc, _, _ => rfl
  | [], _ :: _, acc, _, _ => rfl
  | _ :: _, [], acc, _, _ => rfl
  | k :: ks, c :: cs, acc, hk, hn => by
    show (cloGo ks cs ((nm k, c) :: acc)).lookup (nm j) = _
    rw [cloGo_lookup hj ks cs _ (fun x hx => hk x (List.mem_cons_of_mem _ hx)) (fun q => hn (List.mem_cons_of_mem _ q)), List.lookup_cons, nm_beq hj (hk k (List.mem_cons_self ..))]
    have : ¬ j = k := fun q => hn (q ▸ List.mem_cons_self ..)
    simp [this]
theorem zipC_look {ads : List Addr} : ∀ (ks : List Nat) (cells : List Nat) (cs : List Addr) (acc : List (Str × Addr)), (∀ k ∈ ks, k < NN) → ks.Nodup → cells.length = ks.length → cells.map (fun c => ads[c]?) = cs.map some →
    ∀ j c, look (zipC ks cells) j = some c → j ∈ ks ∧ ∃ a, ads[c]? = some a ∧ (cloGo ks cs acc).lookup (nm j) = some a
  | [], [], _, _, _, _, _, _, j, c, e => by cases e
  | [], _ :: _, _, _, _, _, h, _, _, _, _ => by cases h
  | _ :: _, [], _, _, _, _, h, _, _, _, _ => by cases h
  | k :: ks, c0 :: cells, [], acc, hk, nd, hl, hm, j, c, e => by cases hm
  | k :: ks, c0 :: cells, a0 :: cs, acc, hk, nd, hl, hm, j, c, e => by
    simp only [List.map_cons, List.cons.injEq] at hm
    obtain ⟨n1, n2⟩ := List.nodup_cons.mp nd
    have hk' := fun x hx => hk x (List.mem_cons_of_mem _ hx)
    simp only [zipC, look, beq_dec] at e
    refine (Classical.em (k = j)).elim (fun q => ?_) fun q => ?_
    · subst q
      simp only [decide_true] at e
      cases Option.some.inj e
      refine ⟨List.mem_cons_self .., a0, hm.1, ?_⟩
      show (cloGo ks cs ((nm k, a0) :: acc)).lookup (nm k) = _
      rw [cloGo_lookup (hk k (List.mem_cons_self ..)) ks cs _ hk' n1]
      simp
    · simp only [q, decide_false] at e
      obtain ⟨h1, a, h2, h3⟩ := zipC_look ks cells cs ((nm k, a0) :: acc) hk' n2 (by simpa using hl) hm.2 j c e
      exact ⟨List.mem_cons_of_mem _ h1, a, h2, h3⟩
section
variable {W : Wo} {cx : Cx} {n : Nat}
theorem cels_addrs {ads : List Addr} {ρ : Loc} {σ : Sto} {h : Heap} (S : St W cx ads ρ σ h) : ∀ {ks : List Nat} {l : List (Nat × Nat)}, celsOf ρ ks = some l → ∃ cs : List Addr, (snds l).map (fun c => ads[c]?) = cs.map some ∧ cs.length = ks.length ∧ ∀ acc, frN cx.env.cells ks acc = cloGo ks cs acc
  | [], l, e => by cases e; exact ⟨[], rfl, rfl, fun _ => rfl⟩
  | k :: ks, l, e => by
    dsimp only [celsOf] at e
    split at e
    · rename_i c l' e1 e2
      cases Option.some.inj e
      obtain ⟨cs, h1, h2, h3⟩ := cels_addrs S e2
      obtain ⟨a, i1, i2⟩ := S.cel k c e1
      refine ⟨a :: cs, by simp only [snds, List.map_cons, h1, i1], by simp [h2], fun acc => ?_⟩
      show frN cx.env.cells ks ((nm k, (cx.env.cells.lookup (nm k)).getD 0) :: acc) = cloGo ks cs ((nm k, a) :: acc)
      rw [i2, h3]; rfl
    · injection e
theorem tab_full {ads : List Addr} {ρ : Loc} {σ : Sto} {h : Heap} {N : Nest} {t c' idT : Nat} (S : St W cx ads ρ σ h) (hT : ∀ cs o, W.fs idT cs o ↔ tabP N cs o) (et : σ.get t = some (.fn idT [t, c'])) :
    ∃ ca, ads[t]? = some N.P ∧ ads[c']? = some ca ∧ h.get? N.P = some (tabObj #[rawInt N.pos.line, rawInt N.pos.col, .ref ca]) := by
  obtain ⟨pt, ot, ept, hot, cst, ecs, hfs⟩ := S.obj _ _ et
  rcases (hT _ _).mp hfs with ⟨rfl, _⟩ | ⟨ca, rfl, rfl⟩
  · simp at ecs
  · simp only [List.map_cons, List.map_nil, List.cons.injEq, and_true] at ecs
    cases Option.some.inj (ept.symm.trans ecs.1)
    exact ⟨ca, ept, ecs.2, hot⟩
theorem tab_emp {ads : List Addr} {ρ : Loc} {σ : Sto} {h : Heap} {N : Nest} {t idT : Nat} (S : St W cx ads ρ σ h) (hT : ∀ cs o, W.fs idT cs o ↔ tabP N cs o) (et : σ.get t = some (.fn idT [t])) :
    ads[t]? = some N.P ∧ h.get? N.P = some (tabObj #[]) := by
  obtain ⟨pt, ot, ept, hot, cst, ecs, hfs⟩ := S.obj _ _ et
  rcases (hT _ _).mp hfs with ⟨rfl, rfl⟩ | ⟨ca, rfl, rfl⟩
  · simp only [List.map_cons, List.map_nil, List.cons.injEq, and_true] at ecs
    cases ept.symm.trans ecs
    exact ⟨ept, hot⟩
  · simp at ecs
theorem ns_tab {h : Heap} {L P : Addr} {m : Str → Option Value} {vs : Array Value} (x : h.Ns L m) (hP : h.get? P = some (tabObj vs)) : L ≠ P := fun q => by
  obtain ⟨o, es, ep, e, hd, _⟩ := x
  cases hP.symm.trans (q ▸ e)
  injection hd
/-- the function object laid, its name bound -/
theorem fn_end (O : Ok W n cx) {N : Nest} {idF c' kf x : Nat} {l : List (Nat × Nat)} {ads₀ ads : List Addr} {ca : Addr} {cs : List Addr} {σ σ₁ σ' : Sto} {ρ ρ' : Loc} {v : Fl} {h' : Heap} {s : Shared} {tk : Nat} {doc pm ctv : Value} {Q : Flow → Shared → Prop} {E : Value → Shared → Prop}
    (hF : ∀ cs o, W.fs idF cs o ↔ funP N cs o) (hx : nm x = N.name) (hkx : cx.env.kindOf N.name = some .cell) (X₀ : Ext ads₀ ads) (S : St W cx ads ρ σ h') (hca : ads[c']? = some ca) (hcs : (snds l).map (fun c => ads[c]?) = cs.map some) (hcl : cs.length = N.fks.length)
    (en : σ.new (.fn idF (c' :: snds l)) = some (kf, σ₁)) (hd : bnd (putC x (.ref kf)) (fun _ => ret .next) ρ σ₁ = some (v, ρ', σ')) (k : KK W cx (FR W) ads₀ v ρ' σ' s Q) :
    wpAny (model W.prog W.w) cx.A (storeName cx.env N.name (.ref h'.objs.size)) (fun _ s'' => Q .next s'') E { s with heap := h'.push (fnMade N.name N.qual N.params N.body N.scope (cloGo N.fks cs []) doc pm ca ctv), toks := tk } := by
  obtain ⟨S₂, X₂, g₂⟩ := S.alloc (h' := h'.push _) (fun b o e => Heap.get?_push_of_some _ e) (heap_fresh h') (Heap.get?_push_size _ rfl) (ao := .fn idF (c' :: snds l)) ⟨ca :: cs, by simp only [List.map_cons, hcs, hca], (hF _ _).mpr ⟨ca, cs, doc, _, ctv, rfl, hcl, rfl⟩⟩ en
  refine bnd_elim hd fun u ρ₃ σ₃ e3 hd => ?_
  replace k := KK.of hd k
  exact storeC O x hx hkx _ (.ref kf) _ ⟨_, g₂, rfl⟩ _ _ _ _ _ e3 { s with heap := h'.push _, toks := tk } _ _ S₂ fun ads₄ _ h₄ tk₄ X₄ _ S₄ => k ads₄ _ h₄ tk₄ (X₀.trans (X₂.trans X₄)) rfl S₄
theorem sDef (O : Ok W n cx) {N : Nest} {c₀ : Addr} {t idT idC idF x : Nat} (hcode : cx.env.code = .ref c₀) (C : ∀ h, W.K.In h → CodeHd h c₀ N.P)
    (hT : ∀ cs o, W.fs idT cs o ↔ tabP N cs o) (hC : ∀ cs o, W.fs idC cs o ↔ codP N cs o) (hF : ∀ cs o, W.fs idF cs o ↔ funP N cs o)
    (hq : qualnameIn cx.env N.name N.name = N.qual) (hd0 : N.params.defaults = []) (hk0 : N.params.kw_defaults = []) (ha : annTrees N.params none cx.env = [])
    (hfn : (N.scope.names.filterMap fun x => if x.2 == .free then some x.1 else none) = N.fks.map nm)
    (hx : nm x = N.name) (hkx : cx.env.kindOf N.name = some .cell) (hti : ∀ c, tabObj (#[] ++ #[rawInt N.pos.line, rawInt N.pos.col, .ref c]) = tabObj #[rawInt N.pos.line, rawInt N.pos.col, .ref c] := by intro _; rfl) :
    TS W cx (.FunctionDef N.name N.params N.body [] none [] N.scope none N.name N.pos) (dDef t idT idC idF N.fks x) := by
  intro ads ρ σ v ρ' σ' hd s Q E S k
  refine opq fun PP oo => ?_
  dsimp only [dDef] at hd
  split at hd
  · rename_i l el
    obtain ⟨cs, hcs, hcl, hfr⟩ := cels_addrs S el
    have hclo : closureFor N.scope cx.env = pure (cloGo N.fks cs []) := by
      simp only [← hfr []]
      refine closureFor_fr hfn fun k hk => ?_
      obtain ⟨c, ec⟩ := celsOf_all el k hk
      obtain ⟨a, _, ea⟩ := S.cel k c ec
      exact ⟨a, ea⟩
    obtain ⟨mm, F, hmm⟩ := S.open
    obtain ⟨bm, ob, b1, b2, b3, b4, b5, b6⟩ := O.top.bmain
    have hbG : bm ≠ mainGlobals := fun q => by
      obtain ⟨o, es, ep, e, hd, _⟩ := O.top.g
      cases b3.symm.trans (q ▸ e); cases (hd).symm.trans b6
    refine oo ?_
    refine nestDef_K hd0 hk0 ha ?_
    rw [hq]
    have kin : W.K.In s.heap := O.kin.keeps F.keep
    have hgs := O.top.g.keeps F.keep
    have hbP : ∀ {vs}, s.heap.get? N.P = some (tabObj vs) → bm ≠ N.P := fun hP q => by
      cases (F.keep _ _ b3).symm.trans (q ▸ hP); cases b4
    split at hd
    · rename_i i r c' et
      split at hd
      · rename_i kf σ₁ hi hr en
        have hqq := Nat.eq_of_beq_eq_true hi; subst hqq
        have hqq := Nat.eq_of_beq_eq_true hr; subst hqq
        obtain ⟨ca, ept, eca, hP⟩ := tab_full S hT et
        refine makeFunction_hit (mg := W.mg) hclo O.gl hgs hcode (C _ kin) hP trivial (cv := .ref ca) (by simp [codeAmong, rawInt]) ⟨bm, ob, b1, b2, hbG, hbP hP, F.keep _ _ b3, b4, b5, b6⟩ fun ctv doc h' tk hk hsz => ?_
        exact fn_end O hF hx hkx (.refl _) (S.grow hk) eca hcs hcl en hd k
      · exact nos hd
    · rename_i i r et
      split at hd
      · rename_i σ₁ hi hr ed
        cases Nat.eq_of_beq_eq_true hi
        cases Nat.eq_of_beq_eq_true hr
        refine gN hd fun c' σ₂ ec hd => ?_
        split at hd
        · rename_i σ₃ ep
          refine gN hd fun kf σ₄ en hd => ?_
          obtain ⟨ept, hP⟩ := tab_emp S hT et
          refine makeFunction_K (mg := W.mg) hclo O.gl hgs hcode (C _ kin) hP trivial rfl (ns_tab hgs hP) ⟨bm, ob, b1, b2, hbG, hbP hP, F.keep _ _ b3, b4, b5, b6⟩ fun ca ctv doc h' tk hx' hge hlt hrec htb => ?_
          rw [hti] at htb
          obtain ⟨ca', oc, vs, tq, q3, hoc, hdc, hvc⟩ := hrec
          cases q3
          have hfresh : s.heap.get? ca = none := by
            cases q : s.heap.get? ca with
            | none => rfl
            | some o => exact absurd (Heap.lt_size q) (Nat.not_lt.mpr hge)
          obtain ⟨S₂, X₂, g₂⟩ := (S.upd (ao := .dead) ept hx' htb trivial ed).adopt (ao := .fn idC []) (S.apart hfresh) hoc ⟨[], rfl, (hC _ _).mpr ⟨rfl, vs, tq, hdc, hvc⟩⟩ ec
          have S₃ := S₂.upd (h' := h') (ao := .fn idT [_, c']) (X₂.get ept) (fun _ _ _ e => e) htb ⟨[N.P, ca], by simp only [List.map_cons, List.map_nil, X₂.get ept, g₂], (hT _ _).mpr (.inr ⟨ca, rfl, rfl⟩)⟩ ep
          exact fn_end O hF hx hkx X₂ S₃ g₂ (caps_mono X₂ hcs) hcl en hd k
        · exact nos hd
      · exact nos hd
    · exact nos hd
  · exact nos hd
/-- the call of such a def -/
theorem sCallV {x : Str} {p pos : Pos} {args : List Expr} {dx : Mo AV} {d : Mo (List AV)} {m idF : Nat} {N : Nest} {G : List Nat → List AV → Sto → Option (AV × Sto)} (O : Ok W n cx) (hF : ∀ cs o, W.fs idF cs o ↔ funP N cs o)
    (hf : TE W cx (.Name x p) dx) (h : TA W cx pos args d) (hG : SV W m idF G) (hm : m ≤ n) (hp : ∀ env, (backTo pos (starEach args env)).any (·.1) = false := by intro _; rfl) :
    TE W cx (.Call (.Name x p) args [] pos) (bnd dx fun a => bnd d (apV idF G a)) := by
  intro ads ρ σ v ρ' σ' hd s Q E S k
  refine opq fun PP oo => ?_
  refine bnd_elim hd fun a ρ₁ σ₁ e1 hd1 => ?_
  refine bnd_elim hd1 fun vs ρ₂ σ₂ e2 hd2 => ?_
  clear hd hd1
  dsimp only [apV] at hd2
  have hd := hd2
  clear hd2
  split at hd
  · rename_i kf
    split at hd
    · rename_i i caps ek
      refine gB hd fun hi hd => ?_
      split at hd
      · rename_i v₁ σ₃ e3
        replace k := KK.of hd k
        have hqq := Nat.eq_of_beq_eq_true hi; subst hqq
        refine oo ?_
        refine wpAny_Call_NameR (hf _ _ _ _ _ _ e1 s _ _ S fun ads₁ y h₁ tk₁ X₁ r₁ S₁ => ?_)
        obtain ⟨fa, efa, rfl⟩ := r₁
        refine callWith_of (P := FnAt fa) (by simp [hp]) keeps_F ?_
        refine evalArgs_T h (hp _) e2 S₁ fun ads₂ xs h₂ tk₂ X₂ r₂ S₂ => ⟨?_, ?_⟩
        · obtain ⟨fa', o, e4, ho, cs, _, hfs⟩ := S₂.obj _ _ ek
          cases Option.some.inj ((X₂.get efa).symm.trans e4)
          obtain ⟨c, cells, doc, pm, ctv, _, _, rfl⟩ := (hF _ _).mp hfs
          exact ⟨_, _, _, _, ho⟩
        · exact wpAny_call (hG cx (O.le hm) ads₂ vs xs kf fa caps r₂ (X₂.get efa) _ _ _ _ ek e3 { s with heap := h₂, toks := tk₂ } _ S₂ fun ads' w h' tk X r S' => k ads' w h' tk (X₁.trans (X₂.trans X)) r S')
      · exact nos hd
    · exact nos hd
  · exact nos hd
theorem SV_def {N : Nest} {idF idC : Nat} {ps : List (Nat × Bool)} {cks : List Nat} {d : Mo Fl} (hF : ∀ cs o, W.fs idF cs o ↔ funP N cs o) (hC : ∀ cs o, W.fs idC cs o ↔ codP N cs o)
    (hbind : ∀ (xs : List Value), xs.length = ps.length → ∀ cl doc pm cdv ct, bindArgs (fnX N.name N.qual N.params N.body N.scope cl .none .none doc pm none cdv ct) ⟨xs, []⟩ = pure ((ps.map fun p => nm p.1).zip xs))
    (hck : ∀ h, pushCells h N.scope.names = pushN h cks.length) (hcc : ∀ n acc, cellsFrom n N.scope.names acc = consN n cks acc) (hcks : cks.Nodup ∧ (∀ k ∈ cks, k < NN)) (hfk : N.fks.Nodup ∧ (∀ k ∈ N.fks, k < NN ∧ k ∉ cks))
    (hps : ∀ p ∈ ps, p.1 < NN ∧ N.scope.names.lookup (nm p.1) = some (if p.2 then .cell else .local))
    (hbody : ∀ cx', Ok W n cx' → cx'.env.scope = N.scope → TSs W cx' N.body d)
    (hco : N.scope.isCoroutine = false) (hgen : N.scope.isGenerator = false) (hk : N.scope.kind = .function) : SV W (n + 1) idF (cloF idC ps cks N.fks d) := by
  intro cx O ads vs xs kf f caps hv ef ρ σ v σ' ek hd s R S k
  refine opq fun PP oo => ?_
  dsimp only [cloF] at hd
  split at hd
  · rename_i c cells
    split at hd
    · rename_i i ec
      split at hd
      · rename_i hi hlen
        have hqq := Nat.eq_of_beq_eq_true hi; subst hqq
        have hlen := Nat.eq_of_beq_eq_true hlen
        obtain ⟨fa, o, e4, ho, cs, ecs, hfs⟩ := S.obj _ _ ek
        refine oo ?_
        cases Option.some.inj ((ef).symm.trans e4)
        obtain ⟨ca, cas, doc, pm, ctv, rfl, hcl, rfl⟩ := (hF _ _).mp hfs
        simp only [List.map_cons, List.cons.injEq] at ecs
        obtain ⟨ca', oc, e5, hoc, cs', _, hcs'⟩ := S.obj _ _ ec
        cases Option.some.inj ((ecs.1).symm.trans e5)
        obtain ⟨_, vs', tq, hdc, hvc⟩ := (hC _ _).mp hcs'
        have hl : ps.length = xs.length := by
          have hd' := hd
          dsimp only [cellF] at hd'
          split at hd'
          · split at hd'
            · rename_i e2
              exact (bindM_len e2).trans (VRs.length hv)
            · exact nos hd'
          · exact nos hd'
        refine enter_T (cl := cloGo N.fks cas []) O ho rfl ⟨ca, oc, vs', tq, rfl, hoc, hdc, hvc⟩ (fun Q E hq => ?_) hck hcc hcks (fun j c' e => ?_) hps (fun cx' cl' O' he => hbody cx' O' (congrArg Env.scope he)) hd hco hgen hk k
        · rw [hbind xs hl.symm]
          exact wpAny_pure (hq ads xs s.heap s.toks (.refl _) hv S)
        · obtain ⟨z1, a, z2, z3⟩ := zipC_look N.fks cells cas [] (fun k hk => (hfk.2 k hk).1) hfk.1 hlen ecs.2 j c' e
          exact ⟨(hfk.2 j z1).1, (hfk.2 j z1).2, a, z2, z3⟩
      · exact nos hd
    · exact nos hd
  · exact nos hd
end

section
variable {W : Wo} {cx : Cx} {n : Nat}
noncomputable def fGetL (a i : AV) : Mo AV := fun ρ σ => match i with
  | .lin z b => match isZ z, ixN b with
    | true, some j => match a with
      | .ref k => match σ.get k with
        | some (.list l) => match l[j]? with
          | some v => some (v, ρ, σ)
          | none => none
        | _ => none
      | _ => none
    | _, _ => none
  | _ => none
theorem oGetL {ads : List Addr} {a i : AV} {x y : Value} (ha : VR W.q ads a x) (hi : VR W.q ads i y) : TAt W cx (VRw W) ads (getItem x y) (fGetL a i) := by
  intro ρ σ v ρ' σ' hd s Q E S k
  unfold fGetL at hd
  split at hd
  · split at hd
    · rename_i j hz hj
      cases isZ_is hz
      obtain ⟨rfl, hj⟩ := ixN_is hj
      obtain ⟨t, rfl⟩ := hi
      rw [Int.zero_mul, Int.zero_add]
      split at hd
      · split at hd
        · rename_i l e
          split at hd
          · rename_i w ew
            replace k := KK.of hd k
            obtain ⟨p, o, rfl, ep, ho, vs, m, rfl, rv⟩ := S.at ha e
            obtain ⟨x, ex, rx⟩ := rv.get ew
            exact wpAny_getItem_list (l := p) (items := vs.toArray) ⟨_, ho, rfl, _, rfl⟩ (by lia) (by lia) (x := x) (by simpa using ex) (k ads _ s.heap _ (.refl _) rx S)
          · exact nos hd
        · exact nos hd
      · exact nos hd
    · exact nos hd
  · exact nos hd
/-- l[i] op= v -/
theorem sAugS {o i value : Expr} {pos' pos : Pos} {op : Operator} {dO di dv : Mo AV} {f : AV → AV → Mo AV} (ho : TE W cx o dO) (hi : TE W cx i di) (hv : TE W cx value dv) (hop : OpR W cx (inplaceOp op) f)
    (hs : ∀ ov iv new, augStore i ov iv new = (do holding [new, ov, iv] (setItem ov iv new); release [new, ov, iv] []; pure .next) := by intro _ _ _; rfl) :
    TS W cx (.AugAssign (.Subscript o i pos') op value pos) (bnd dO fun a => bnd di fun i => bnd (fGetL a i) fun old => bnd dv fun v => bnd (f old v) fun new => bnd (fSet a i new) fun _ => ret .next) := by
  intro ads ρ σ v ρ' σ' hd s Q E S k
  refine bnd_elim hd fun a ρ₁ σ₁ e1 hd => ?_
  refine bnd_elim hd fun b ρ₂ σ₂ e2 hd => ?_
  refine bnd_elim hd fun c ρ₃ σ₃ e3 hd => ?_
  refine bnd_elim hd fun d ρ₄ σ₄ e4 hd => ?_
  refine bnd_elim hd fun g ρ₅ σ₅ e5 hd => ?_
  refine bnd_elim hd fun u ρ₆ σ₆ e6 hd => ?_
  replace k := KK.of hd k
  refine wpAny_AugAssign_Subscript_any (ho _ _ _ _ _ _ e1 s _ _ S fun ads₁ x h₁ tk₁ X₁ r₁ S₁ => ?_) hs
  refine hi _ _ _ _ _ _ e2 _ _ _ S₁ fun ads₂ y h₂ tk₂ X₂ r₂ S₂ => ?_
  refine oGetL (VR.mono X₂ r₁) r₂ _ _ _ _ _ e3 _ _ _ S₂ fun ads₃ z h₃ tk₃ X₃ r₃ S₃ => ?_
  refine hv _ _ _ _ _ _ e4 _ _ _ S₃ fun ads₄ w h₄ tk₄ X₄ r₄ S₄ => ?_
  refine hop ads₄ c d _ _ (VR.mono X₄ r₃) r₄ _ _ _ _ _ e5 _ _ _ S₄ fun ads₅ q h₅ tk₅ X₅ r₅ S₅ => ?_
  exact oSet (VR.mono (X₃.trans (X₄.trans X₅)) (VR.mono X₂ r₁)) (VR.mono (X₃.trans (X₄.trans X₅)) r₂) r₅ _ _ _ _ _ e6 _ _ _ S₅ fun ads₆ _ h₆ tk₆ X₆ _ S₆ => k ads₆ _ h₆ tk₆ (X₁.trans (X₂.trans (X₃.trans (X₄.trans (X₅.trans X₆))))) rfl S₆
end

section
variable {W : Wo} {cx : Cx} {n : Nat}
theorem SF.re {f : Value} {G F : List AV → Sto → Option (AV × Sto)} (h : SF W n f G)
    (hr : ∀ cx ads vs xs ρ σ v σ' (h : Heap), Ok W n cx → VRs W.q ads vs xs → St W cx ads ρ σ h → F vs σ = some (v, σ') → ∃ vs' σ₁ v' σ₂, VRs W.q ads vs' xs ∧ St W cx ads ρ σ₁ h ∧ G vs' σ₁ = some (v', σ₂) ∧
      ∀ ads' y h', Ext ads ads' → VR W.q ads' v' y → St W cx ads' ρ σ₂ h' → ∃ ads'', Ext ads ads'' ∧ VR W.q ads'' v y ∧ St W cx ads'' ρ σ' h') : SF W n f F := by
  intro cx O ads vs xs hv ρ σ v ρ' σ' hd s Q E S k
  unfold apF at hd
  split at hd
  · rename_i v₁ σ₁ hd'
    replace k := KK.of hd k
    obtain ⟨vs', σ₁, v', σ₂, g1, g2, g3, g4⟩ := hr cx ads vs xs ρ σ _ _ s.heap O hv S hd'
    refine h cx O ads vs' xs g1 ρ σ₁ v' ρ σ₂ (by unfold apF; rw [g3]) s Q E g2 fun ads' y h' tk X r S' => ?_
    obtain ⟨ads'', X'', r'', S''⟩ := g4 ads' y h' X r S'
    exact k ads'' y h' tk X'' r'' S''
  · exact nos hd
/-! less is told: what refs to, and objects that a smaller list tells -/
theorem VR.down {q : Int} {ads ads' : List Addr} (X : Ext ads ads') {v : AV} {x₀ x : Value} (h₀ : VR q ads v x₀) (h : VR q ads' v x) : VR q ads v x := by
  cases v with
  | ref k =>
    obtain ⟨a, e, _⟩ := h₀
    obtain ⟨b, e', r⟩ := h
    cases Option.some.inj ((X.get e).symm.trans e')
    exact ⟨a, e, r⟩
  | kref k =>
    obtain ⟨a, e, _⟩ := h₀
    obtain ⟨b, e', r⟩ := h
    cases Option.some.inj ((X.get e).symm.trans e')
    exact ⟨a, e, r⟩
  | _ => exact h
theorem VRs.down {q : Int} {ads ads' : List Addr} (X : Ext ads ads') : ∀ {l : List AV} {us vs : List Value}, VRs q ads l us → VRs q ads' l vs → VRs q ads l vs
  | [], [], [], _, _ => trivial
  | _ :: _, _ :: _, _ :: _, ⟨h, r⟩, ⟨h', r'⟩ => ⟨VR.down X h h', VRs.down X r r'⟩
  | [], _ :: _, _, h, _ => h.elim
  | [], [], _ :: _, _, h => h.elim
  | _ :: _, [], _, h, _ => h.elim
  | _ :: _, _ :: _, [], _, h => h.elim
theorem DR.down {q : Int} {P : Params} {ads ads' : List Addr} (X : Ext ads ads') : ∀ {l : List (Nat × AV)} {us vs : List DictEntry}, DR q P ads l us → DR q P ads' l vs → DR q P ads l vs
  | [], [], [], _, _ => trivial
  | (_, _) :: _, _ :: _, _ :: _, ⟨_, _, _, h, r⟩, ⟨a, b, c, h', r'⟩ => ⟨a, b, c, VR.down X h h', DR.down X r r'⟩
  | [], _ :: _, _, h, _ => h.elim
  | [], [], _ :: _, _, h => h.elim
  | _ :: _, [], _, h, _ => h.elim
  | _ :: _, _ :: _, [], _, h => h.elim
theorem get_down {ads ads' : List Addr} (X : Ext ads ads') {k : Nat} {a b : Addr} (h : ads[k]? = some a) (h' : ads'[k]? = some b) : ads[k]? = some b := by
  cases Option.some.inj ((X.get h).symm.trans h'); exact h
theorem caps_down {ads ads' : List Addr} (X : Ext ads ads') : ∀ {caps : List Nat} {us cs : List Addr}, caps.map (fun c => ads[c]?) = us.map some → caps.map (fun c => ads'[c]?) = cs.map some → caps.map (fun c => ads[c]?) = cs.map some
  | [], _, [], _, _ => rfl
  | c :: caps, u :: us, a :: cs, h, h' => by
    simp only [List.map_cons, List.cons.injEq] at h h' ⊢
    exact ⟨get_down X h.1 h'.1, caps_down X h.2 h'.2⟩
  | [], _, _ :: _, _, h => by simp at h
  | _ :: _, [], _, h, _ => by simp at h
  | _ :: _, _ :: _, [], _, h => by simp at h
theorem OR.down {q : Int} {P : Params} {fs : Nat → List Addr → Obj → Prop} {ts : Nat → Bool → Obj → Prop} {ads ads' : List Addr} (X : Ext ads ads') {o : AO} {b₀ b : Obj} (h₀ : OR q P fs ts ads o b₀) (h : OR q P fs ts ads' o b) : OR q P fs ts ads o b := by
  cases o with
  | list l => obtain ⟨us, m, _, s⟩ := h₀; obtain ⟨vs, n, e, r⟩ := h; exact ⟨vs, n, e, s.down X r⟩
  | tup l => obtain ⟨us, m, _, s⟩ := h₀; obtain ⟨vs, n, e, r⟩ := h; exact ⟨vs, n, e, s.down X r⟩
  | inst C d => obtain ⟨a', s, _⟩ := h₀; obtain ⟨a, e, r⟩ := h; exact ⟨a, get_down X s e, r⟩
  | dict l => obtain ⟨us, m, _, s⟩ := h₀; obtain ⟨es, n, e, r⟩ := h; exact ⟨es, n, e, s.down X r⟩
  | cell v => cases v with
    | none => exact h
    | some a => obtain ⟨u, _, s⟩ := h₀; obtain ⟨v, e, r⟩ := h; exact ⟨v, e, s.down X r⟩
  | liter l i => obtain ⟨a', s, _, _⟩ := h₀; obtain ⟨a, e, r1, r2⟩ := h; exact ⟨a, get_down X s e, r1, r2⟩
  | titer l i => obtain ⟨a', s, _⟩ := h₀; obtain ⟨a, e, r⟩ := h; exact ⟨a, get_down X s e, r⟩
  | fn id caps => obtain ⟨us, s, _⟩ := h₀; obtain ⟨cs, e, r⟩ := h; exact ⟨cs, caps_down X s e, r⟩
  | tab id full => exact h
  | pints l => exact h
  | piter l done => obtain ⟨a', s, _, _⟩ := h₀; obtain ⟨a, e, r1, r2⟩ := h; exact ⟨a, get_down X s e, r1, r2⟩
  | rng a b n => exact h
  | rvit l i => obtain ⟨a', s, _⟩ := h₀; obtain ⟨a, e, r⟩ := h; exact ⟨a, get_down X s e, r⟩
  | dead => trivial
/-- behind a call: what was made in it is told in part -/
theorem St.less {ads ads₂ more : List Addr} {ρ : Loc} {σ σ₂ σ' : Sto} {h₀ h : Heap} (S₀ : St W cx ads ρ σ h₀) (S : St W cx ads₂ ρ σ₂ h) (X : Ext ads ads₂) (hm : ∀ a ∈ more, a ∈ ads₂ ∧ a ∉ ads) (hnd : more.Nodup) (hn : σ'.next = (ads ++ more).length)
    (ho : ∀ k ao, σ'.get k = some ao → (σ.get k = some ao ∧ σ₂.get k = some ao) ∨ ObR W (ads ++ more) h k ao) : St W cx (ads ++ more) ρ σ' h := by
  have XM : Ext ads (ads ++ more) := ⟨more, rfl⟩
  obtain ⟨m, F, hmm⟩ := S.open
  obtain ⟨m₀, F₀, hm₀⟩ := S₀.open
  have mem : ∀ a ∈ ads ++ more, a ∈ ads₂ := fun a ha => by
    rcases List.mem_append.mp ha with ha | ha
    · obtain ⟨mo, rfl⟩ := X; exact List.mem_append_left _ ha
    · exact (hm a ha).1
  refine ⟨⟨m, F, fun j v e => ?_⟩, fun j c e => ?_, ?_, hn, fun a ha => S.new a (mem a ha), fun k ao e => ?_, fun p hp => ?_⟩
  · obtain ⟨hj, x, e1, e2⟩ := hmm j v e
    obtain ⟨_, x₀, _, e4⟩ := hm₀ j v e
    exact ⟨hj, x, e1, (VR.down X e4 e2).mono XM⟩
  · obtain ⟨a, e1, e2⟩ := S₀.cel j c e
    exact ⟨a, XM.get e1, e2⟩
  · refine List.nodup_append.mpr ⟨S₀.nd, hnd, fun a ha b hb q => ?_⟩
    subst q
    exact (hm a hb).2 ha
  · rcases ho k ao e with ⟨e1, e2⟩ | r
    · obtain ⟨a, o, g1, g2, g3⟩ := S.obj k ao e2
      obtain ⟨a₀, o₀, f1, _, f3⟩ := S₀.obj k ao e1
      exact ⟨a, o, XM.get (get_down X f1 g1), g2, OR.mono XM (OR.down X f3 g3)⟩
    · exact r
  · obtain ⟨p1, p2, p3, p4⟩ := S.pv p hp
    exact ⟨p1, p2, fun q => p3 (mem _ q), p4⟩
end

/-- every frame on the stack is the own one, or kept up to its slots -/
noncomputable def FroP (A : Around) (fz : List (Addr × Obj)) (N : Addr) : Prop := ∃ fs, A.frames = some fs ∧ ∀ env ∈ fs, ∀ a, env.frame = some a → a = N ∨ ∃ o, (a, o) ∈ fz
noncomputable def Pr0 (cx : Cx) : Prop := FroP cx.A [] cx.N
noncomputable def Pr1 (cx : Cx) : Prop := FroP cx.A cx.fz cx.N
noncomputable def SCx (W : Wo) (Pr : Cx → Prop) (n : Nat) (f : Value) (F : List AV → Sto → Option (AV × Sto)) : Prop :=
  ∀ cx, Ok W n cx → Pr cx → ∀ ads vs xs, VRs W.q ads vs xs → ∀ ρ σ v σ', F vs σ = some (v, σ') → ∀ (s : Shared) (R : Result → Shared → Prop), St W cx ads ρ σ s.heap →
    (∀ ads' y h' tk, Ext ads ads' → VR W.q ads' v y → St W cx ads' ρ σ' h' → R (.ok (.ret y)) { s with heap := h', toks := tk }) → codeAny (model W.prog W.w) cx.A (.call f ⟨xs, []⟩) R s
section
variable {W : Wo} {cx : Cx} {n : Nat}
/-- a call of something named, such frames about -/
theorem sCallX {x : Str} {p pos : Pos} {args : List Expr} {f : Value} {d : Mo (List AV)} {F : List AV → Sto → Option (AV × Sto)} {m : Nat} {Pr : Cx → Prop} (O : Ok W n cx) (hfr : Pr cx) (hf : TE W cx (.Name x p) (ret (.wr f)))
    (h : TA W cx pos args d) (hF : SCx W Pr m f F) (hk : Kp W f) (hm : m ≤ n) (hp : ∀ env, (backTo pos (starEach args env)).any (·.1) = false := by intro _; rfl) :
    TE W cx (.Call (.Name x p) args [] pos) (bnd d (apF F)) := by
  intro ads ρ σ v ρ' σ' hd s Q E S k
  refine wpAny_Call_NameR (hf _ _ _ _ _ _ rfl s _ _ S fun ads₁ x h₁ tk₁ X₁ r₁ S₁ => ?_)
  subst r₁
  refine callWith_T (first := []) O h (hp _) hk (fun ads' vs xs _ r => ?_) _ _ _ _ _ hd _ _ _ S₁ fun ads₃ z h₃ tk₃ X₃ r₃ S₃ => k ads₃ z h₃ tk₃ (X₁.trans X₃) r₃ S₃
  intro ρ σ v ρ' σ' hd s Q E S k
  unfold apF at hd
  split at hd
  · rename_i v₁ σ₁ hd'
    replace k := KK.of hd k
    exact wpAny_call (hF cx (O.le hm) hfr ads' vs xs r ρ σ _ _ hd' s _ S fun ads' y h' tk X r S' => k ads' y h' tk X r S')
  · exact nos hd
theorem fr_selfNone {b h : Heap} {N : Addr} {m : Str → Option Value} (F : Fr b N h m) : b.get? N = none := by
  cases q : b.get? N with
  | none => rfl
  | some o => exact absurd (Nat.lt_of_lt_of_le (Heap.lt_size q) F.above) (Nat.lt_irrefl _)
theorem St.backP {ads ads' : List Addr} {ρ ρ' : Loc} {σ σ' : Sto} {h h' : Heap} {cx' : Cx} {oN : Obj} (S : St W cx ads ρ σ h) (hN : h.get? cx.N = some oN) (hb : cx'.base = hideAll h (cx.N :: ads)) (hz : cx'.fz = [(cx.N, oN)]) (S' : St W cx' ads' ρ' σ' h') (X : Ext ads ads') : St W cx ads' ρ σ' h' := by
  obtain ⟨m, F, hm⟩ := S.open
  obtain ⟨m', F', _⟩ := S'.open
  have hbN := fr_selfNone F
  have nm : ∀ b o, cx.base.get? b = some o → b ∉ cx.N :: ads := fun b o e q => by
    rcases List.mem_cons.mp q with q | q
    · rw [q, hbN] at e; cases e
    · have := (S.new b q).2.1
      cases (e).symm.trans this
  have st : cx.base.StaysIn (hideAll h (cx.N :: ads)) := fun b o e => hideAll_get _ (F.keep b o e) (nm b o e)
  obtain ⟨⟨oN', eN', hfz⟩, _, hNads, _⟩ := S'.pv (cx.N, oN) (by simp only [Cx.al, hz]; exact List.mem_append_right _ (List.mem_cons_self ..))
  have old : ∀ b o, (hideAll h (cx.N :: ads)).get? b = some o → h'.get? b = some o ∧ b ∉ ads' := fun b o e => ⟨F'.keep _ _ (hb ▸ e), fun hm => by
    have := (S'.new b hm).2.1
    rw [hb, e] at this; cases this⟩
  refine ⟨⟨m, ?_, fun k v e => ?_⟩, fun k c e => ?_, S'.nd, S'.len, fun a ha => ?_, S'.obj, fun p hp => ?_⟩
  rotate_right
  · obtain ⟨⟨o, e, fz⟩, p2, p3, p4⟩ := S.pv p hp
    obtain ⟨q1, q2⟩ := old p.1 o (hideAll_get _ e (fun q => (List.mem_cons.mp q).elim p2 p3))
    exact ⟨⟨o, q1, fz⟩, p2, q2, p4⟩
  · obtain ⟨oN2, es, ep, hN2, hd2, r⟩ := F.ns
    cases (hN).symm.trans hN2
    have : oN'.data = oN.data := by rcases hfz with rfl | ⟨_, sl, rfl⟩ <;> rfl
    exact ⟨⟨oN', es, ep, eN', this.trans hd2, r⟩, fun b o e => F'.keep b o (hb ▸ st b o e), F.above⟩
  · obtain ⟨a1, x, a2, a3⟩ := hm k v e
    exact ⟨a1, x, a2, a3.mono X⟩
  · obtain ⟨a, e1, e2⟩ := S.cel k c e
    exact ⟨a, X.get e1, e2⟩
  · obtain ⟨a1, a2, o, e⟩ := S'.new a ha
    refine ⟨fun q => hNads (q ▸ ha), ?_, o, e⟩
    cases q : cx.base.get? a with
    | none => rfl
    | some o' => rw [hb, st _ _ q] at a2; cases a2
/-- a written def with cells, entered from below kept frames -/
theorem SCx_cell {f : Addr} {name qual : Str} {params : Arguments} {body : List Stmt} {scope : Scope} {dV kV doc pm cdv ct oc : Value} {an od : Option Addr} {osl : Array (Option Value)} {ps : List (Nat × Bool)} {cks : List Nat} {d : Mo Fl}
    (ho : W.K.lookup f = some ⟨oc, od, .func (fnOf name qual params body scope dV kV doc pm an cdv ct), osl⟩) (hcd : codeIn W.K cdv qual = true)
    (hbind : ∀ (s : Shared) (xs : List Value), W.K.In s.heap → xs.length = ps.length → BindsTo s (fnOf name qual params body scope dV kV doc pm an cdv ct) ⟨xs, []⟩ ((ps.map fun p => nm p.1).zip xs))
    (hck : ∀ h, pushCells h scope.names = pushN h cks.length) (hcc : ∀ n acc, cellsFrom n scope.names acc = consN n cks acc) (hcks : cks.Nodup ∧ (∀ k ∈ cks, k < NN))
    (hps : ∀ p ∈ ps, p.1 < NN ∧ scope.names.lookup (nm p.1) = some (if p.2 then .cell else .local))
    (hbody : ∀ cx' cells, Ok W n cx' → Pr1 cx' → cx'.env = envX qual scope cx'.N f cdv cells → TSs W cx' body d)
    (hco : scope.isCoroutine = false := by rfl) (hgen : scope.isGenerator = false := by rfl) (hk : scope.kind = .function := by rfl) : SCx W Pr0 (n + 1) (.ref f) (cellF ps cks [] d) := by
  intro cx O hfro ads vs xs hv ρ σ v σ' he s R S k
  have X := S.inA O
  unfold cellF at he
  split at he
  · rename_i l₂ σ₁ e1
    split at he
    · rename_i u ρ₂ σ₂ e2
      have hlen : ps.length = xs.length := (bindM_len e2).trans (VRs.length hv)
      refine codeAny_call_function (o := _) (fd := fnX name qual params body scope [] dV kV doc pm an cdv ct) (by have := O.dp; lia) (X _ _ ho) rfl hco hgen rfl (codeRec_of X hcd) (hbind s xs X hlen.symm _ _ _ _ ?_)
      obtain ⟨m, F, hm⟩ := S.open
      obtain ⟨oN, esN, epN, hN, hdN, rN⟩ := id F.ns
      have hbN := fr_selfNone F
      have nN : cx.N ∉ ads := fun q => (S.new _ q).1 rfl
      have nmb : ∀ b o, cx.base.get? b = some o → b ∉ cx.N :: ads := fun b o e q => by
        rcases List.mem_cons.mp q with q | q
        · rw [q, hbN] at e; cases e
        · have := (S.new b q).2.1
          cases (e).symm.trans this
      have st : cx.base.StaysIn (hideAll s.heap (cx.N :: ads)) := fun b o e => hideAll_get _ (F.keep b o e) (nmb b o e)
      show wpAny _ cx.A.in1 (newFunctionEnv scope mainGlobals [] ((ps.map fun p => nm p.1).zip xs) (qual ++ ".<locals>.") (some f) cdv none builtinsNs) _ _ s
      have hCn : ∀ b o, s.heap.get? b = some o → b ≠ s.heap.objs.size := fun b o e => Nat.ne_of_lt (Heap.lt_size e)
      generalize henv : envX qual scope s.heap.objs.size f cdv (consN (s.heap.objs.size + 1) cks []) = env
      have hsc : env.scope = scope := henv ▸ rfl
      obtain ⟨b₀, fs, f1', f2'⟩ := O.fr
      have key : ∀ (h' : Heap) m', Fr (hideAll s.heap (cx.N :: ads)) s.heap.objs.size h' m' → (∀ p ∈ [(cx.N, oN)], Pv h' p) → b₀.StaysIn h' ∧ h'.FunFrames b₀ fs := fun h' m' F' hp => by
        obtain ⟨oN', eN', hfz⟩ := hp (cx.N, oN) (List.mem_cons_self ..)
        have hd' : oN'.data = oN.data := by rcases hfz with rfl | ⟨_, sl, rfl⟩ <;> rfl
        refine f2' h' m ⟨⟨oN', esN, epN, eN', hd'.trans hdN, rN⟩, fun b o e => F'.keep b o (st b o e), F.above⟩ fun p hp => ?_
        obtain ⟨⟨o, e, r⟩, p2, p3, _⟩ := S.pv p (List.mem_append_right _ hp)
        exact ⟨o, F'.keep _ _ (hideAll_get _ e fun q => (List.mem_cons.mp q).elim p2 p3), r⟩
      have O' : Ok W n ⟨cx.A.deeper env, hideAll s.heap (cx.N :: ads), s.heap.objs.size, env, [], [(cx.N, oN)]⟩ := by
        refine ⟨O.hh, ?_, ?_, fun b o e => st b o (O.kin b o e), O.top.keeps st, henv ▸ rfl, hsc ▸ hk, henv ▸ rfl, henv ▸ rfl, O.hq, b₀, env :: fs, Around.frames_deeper f1', fun h' m' F' hp => ?_⟩
        · show cx.A.depth + 1 + n < recursionLimit
          have := O.dp; lia
        · show cx.A.units + 3 + 8 * n + 100 < cLine
          have := O.un; lia
        · obtain ⟨s1, s2⟩ := key h' m' F' hp
          refine ⟨s1, .cons (by simp only [hsc, hk]; decide) (henv ▸ rfl) F'.ns ?_ s2⟩
          obtain ⟨s3, _⟩ := f2' s.heap m F fun p hp => by
            obtain ⟨x, _⟩ := S.pv p (List.mem_append_right _ hp)
            exact x
          cases q : b₀.get? s.heap.objs.size with
          | none => rfl
          | some o' => exact absurd (Heap.lt_size (s3 _ o' q)) (Nat.lt_irrefl _)
      have O'' : Ok W n ⟨cx.A.in1, hideAll s.heap (cx.N :: ads), s.heap.objs.size, env, [], [(cx.N, oN)]⟩ := ⟨O.hh, by have := O.dp; show cx.A.depth + n < _; lia, by have := O.un; show cx.A.units + 1 + 8 * n + 100 < _; lia, fun b o e => st b o (O.kin b o e), O.top.keeps st, henv ▸ rfl, hsc ▸ hk, henv ▸ rfl, henv ▸ rfl, O.hq, b₀, fs, f1', key⟩
      have fro' : Pr1 ⟨cx.A.deeper env, hideAll s.heap (cx.N :: ads), s.heap.objs.size, env, [], [(cx.N, oN)]⟩ := by
        obtain ⟨fs', g1, g2⟩ := hfro
        refine ⟨env :: fs', Around.frames_deeper g1, fun e he a ha => ?_⟩
        rcases List.mem_cons.mp he with rfl | he
        · subst henv; exact .inl (Option.some.inj ha).symm
        · rcases g2 e he a ha with rfl | ⟨o, ho'⟩
          · exact .inr ⟨oN, List.mem_cons_self ..⟩
          · cases ho'
      have S₁ : St W ⟨cx.A.in1, hideAll s.heap (cx.N :: ads), s.heap.objs.size, env, [], [(cx.N, oN)]⟩ ads ⟨[], []⟩ σ (s.heap.push { cls := .type "frame", data := .dict #[] }) := by
        refine ⟨⟨_, ⟨Heap.Ns.new s.heap (.type "frame"), fun b o e => Heap.get?_push_of_some _ (of_hideAll _ e), Nat.le_of_eq (hideAll_size _ _)⟩, (fun k v e => by cases e)⟩, (fun k c e => by cases e), S.nd, S.len, fun a ha => ?_, fun k ao e => ?_, fun p hp => ?_⟩
        · obtain ⟨_, _, o', e⟩ := S.new a ha
          exact ⟨hCn _ _ e, hideAll_none _ (List.mem_cons_of_mem _ ha), o', Heap.get?_push_of_some _ e⟩
        · obtain ⟨a, o', e1, e2, e3⟩ := S.obj k ao e
          exact ⟨a, o', e1, Heap.get?_push_of_some _ e2, e3⟩
        · obtain rfl := List.mem_singleton.mp (show p ∈ [(cx.N, oN)] from hp)
          exact ⟨⟨oN, Heap.get?_push_of_some _ hN, .inl rfl⟩, hCn _ _ hN, nN, hideAll_none _ (List.mem_cons_self ..)⟩
      refine frame_T henv.symm O'' S₁ hck hcc hcks (fun j c e => by cases e) hps hv e1 e2 fun ads₄ h₄ tk₄ X₄ S₄ => ⟨?_, codeAny_func ?_⟩
      · obtain ⟨m₄, F₄, _⟩ := S₄.open
        exact (O'.top.nolimit).keeps F₄.keep
      · unfold outF at he
        split at he
        · rename_i u' ρ₅ σ₅ eb
          cases he
          refine hbody _ _ O' fro' henv.symm ads₄ _ _ _ _ _ eb { s with heap := h₄, toks := tk₄ } _ _ (S₄.otherA _) fun ads₅ fl h₅ tk₅ X₅ r₅ S₅ => ?_
          obtain ⟨x, rfl, rx⟩ := r₅
          exact k ads₅ x h₅ tk₅ (X₄.trans X₅) rx (S.backP hN rfl rfl S₅ (X₄.trans X₅))
        · rename_i ρ₅ σ₅ eb
          cases Option.some.inj he
          refine hbody _ _ O' fro' henv.symm ads₄ _ _ _ _ _ eb { s with heap := h₄, toks := tk₄ } _ _ (S₄.otherA _) fun ads₅ fl h₅ tk₅ X₅ r₅ S₅ => ?_
          subst r₅
          exact k ads₅ _ h₅ tk₅ (X₄.trans X₅) rfl (S.backP hN rfl rfl S₅ (X₄.trans X₅))
        · exact nos he
    · exact nos he
  · exact nos he
end

section
variable {W : Wo} {cx : Cx} {n : Nat}
/-- next of an exhausted list iterator -/
theorem next_end {A : Around} {E : Value → Shared → Prop} {Q : Value → Shared → Prop} {s : Shared} {it la : Addr} {oi : Obj} {xs : Array Value} {i : Nat} (hh : A.handled = none) (ho : s.heap.get? it = some oi) (hc : oi.cls = .type "list_iterator") (hdd : oi.data = .fields #[.ref la, .int i 0])
    (hl : s.heap.IsList la xs) (hx : xs[i]? = none)
    (k : ∀ h h' e, Heap.ExtBut it s.heap h → (∃ o, h.get? it = some o ∧ ∃ vs, o.data = .fields vs) → Heap.MadeExcOf h h' e (.type "StopIteration") [] → E (.ref e) { s with heap := h' }) :
    wpAny (model W.prog W.w) A (call (.builtin "next") [.ref it]) Q E s := by
  have hT : s.TypeIs (.ref it) "list_iterator" := ⟨_, ho, hc⟩
  obtain ⟨ol, hol, _, nl, hdl⟩ := hl
  refine call_function_entry (by decide +kernel) (by decide +kernel) kdk_entry_next (kdk_args_next _) ?_
  unfold Builtin.«next»
  refine wpAny_bind (m := someArgs "next" 1 2 _) (wpAny_of_eq (a := [Value.ref it]) (by first | rfl | kernel_rfl!) ?_)
  dsimp only
  refine wpAny_bind (wpAny_specialOf (name := Str.ofString "__next__") hT slot_listiter_next.lookup ?_)
  refine wpAny_ite_split (fun hab => absurd hab (by decide)) (fun _ => ?_)
  refine wpAny_bind (wpAny_callSpecial?_slot (name := Str.ofString "__next__") hT slot_listiter_next
    (wpAny_call_entry slot_listiter_next hT entry_listiter_next ?_ (args_listiter_next _)))
  show wpAny _ _ (field (.ref it) 0 >>= _) _ _ s
  refine wpAny_bind (wpAny_field ho hdd (x := .ref la) rfl ?_)
  show wpAny _ _ (if (Value.ref la == Value.none) = true then _ else _) _ _ s
  dsimp only [if_neg (show ¬ ((Value.ref la == Value.none) = true) from Bool.false_ne_true)]
  show wpAny _ _ (field (.ref it) 1 >>= _) _ _ s
  refine wpAny_bind (wpAny_field ho hdd (x := .int i 0) rfl ?_)
  show wpAny _ _ (seqItems? (.ref la) >>= _) _ _ s
  refine wpAny_bind (wpAny_seqItems hol hdl ?_)
  simp only [Int.toNat_natCast, hx]
  refine wpAny_bind (wpAny_rule (wpAny_bind (wpAny_setField ho hdd (by simp) ?_)))
  show wpAny _ _ (newExc (.type "StopIteration") [] >>= _) _ _ _
  refine wpAny_bind ?_
  dsimp only [newExc, newTuple]
  refine wpAny_bind (wpAny_newObj_type ?_ (by size_fits))
  refine wpAny_bind (m := firstArgMember _ _) (wpAny_of_eq (a := Value.none) (by first | rfl | (dsimp only [firstArgMember]; rfl)) ?_)
  refine wpAny_newObj_type ?_ (by size_fits)
  dsimp only [raiseNew]
  refine wpAny_bind (wpAny_handled ?_)
  simp only [show (Around.handled _) = none from hh]
  refine wpAny_bind (wpAny_pure (wpAny_throw ?_))
  have hu : (s.heap.update it (Obj.mapFields (·.setIfInBounds 0 .none))).get? it = some (Obj.mapFields (·.setIfInBounds 0 .none) oi) := Heap.get?_update_self _ ho (Obj.isFreed_of_fields (Obj.data_mapFields hdd _))
  refine k (s.heap.update it (Obj.mapFields (·.setIfInBounds 0 .none))) _ _ (Heap.SameBut.update ..).extBut ⟨_, hu, _, Obj.data_mapFields hdd _⟩ ⟨fun b o e => Heap.get?_push_of_some _ (Heap.get?_push_of_some _ e), ?_, ?_⟩
  · exact Heap.get?_none_of_le (by simp only [Heap.size_push]; exact Nat.le_succ _)
  · exact ⟨_, Heap.get?_push_size _ rfl, heap_fresh _, Heap.get?_push_of_some _ (Heap.get?_push_size _ rfl)⟩
end

theorem dropP_denE (q : Int) : ∀ (ps done rest : List Pc), dropP ps done = some rest → denT q ps = denT q done ++ denT q rest
  | ps, [], rest, h => by
    have : ps = rest := by cases ps with
      | nil => simpa [dropP] using h
      | cons p r => cases p <;> simpa [dropP] using h
    rw [this]; rfl
  | [], .oct _ _ :: _, _, h => by simp [dropP] at h
  | [], .lit _ :: _, _, h => by simp [dropP] at h
  | .lit _ :: _, .oct _ _ :: _, _, h => by simp [dropP] at h
  | .lit _ :: _, .lit _ :: _, _, h => by simp [dropP] at h
  | .oct _ _ :: _, .lit _ :: _, _, h => by simp [dropP] at h
  | .oct a b :: ps, .oct c d :: done, rest, h => by
    dsimp only [dropP] at h
    split at h
    · rename_i h1 h2
      cases intB_is h1; cases intB_is h2
      simp only [denT, dropP_denE q ps done rest h, List.append_assoc]
    · injection h
section
variable {W : Wo} {cx : Cx} {n : Nat}
theorem St.slots {ads : List Addr} {ρ : Loc} {σ : Sto} {h h' : Heap} {fa : List Addr} (S : St W cx ads ρ σ h) (hB : ∀ b o, h.get? b = some o → b ∉ fa → h'.get? b = some o) (hup : h.UpToSlots h')
    (hfa : ∀ a ∈ fa, a ∉ ads ∧ cx.base.get? a = none ∧ ∃ o, h.get? a = some o ∧ ∀ vs, o.data ≠ .fields vs) : St W cx ads ρ σ h' := by
  obtain ⟨m, F, hm⟩ := S.open
  refine ⟨⟨m, ⟨hup.ns F.ns, fun b o e => hB b o (F.keep b o e) (fun q => by have := (hfa b q).2.1; cases (e).symm.trans this), F.above⟩, hm⟩, S.cel, S.nd, S.len, fun a ha => ?_, fun k ao e => ?_, fun p hp => ?_⟩
  · obtain ⟨a1, a2, o, e⟩ := S.new a ha
    exact ⟨a1, a2, o, hB a o e fun q => (hfa a q).1 ha⟩
  · obtain ⟨a, o, e1, e2, e3⟩ := S.obj k ao e
    exact ⟨a, o, e1, hB a o e2 (fun q => (hfa a q).1 (List.mem_of_getElem? e1)), e3⟩
  · obtain ⟨⟨o, e, fz⟩, p2⟩ := S.pv p hp
    refine ⟨?_, p2⟩
    refine (Classical.em (p.1 ∈ fa)).elim (fun q => ?_) fun q => ?_
    · obtain ⟨_, _, o', e', hnf⟩ := hfa p.1 q
      rw [e] at e'; cases e'
      obtain ⟨sl, es⟩ := hup p.1 o e hnf
      refine ⟨_, es, .inr ?_⟩
      rcases fz with rfl | ⟨h1, sl0, rfl⟩
      · exact ⟨hnf, sl, rfl⟩
      · exact ⟨h1, sl, rfl⟩
    · exact ⟨o, hB _ _ e q, fz⟩
theorem St.enter {ads : List Addr} {ρ : Loc} {σ : Sto} {s : Shared} {h₁ : Heap} {A' : Around} {env : Env} {ps : List Nat} {vs : List AV} {xs : List Value} {l : List (Nat × AV)} (S : St W cx ads ρ σ s.heap) (hps : ps.Nodup) (hpn : ∀ k ∈ ps, k < NN) (el : zipN ps vs = some l) (hv : VRs W.q ads vs xs)
    (hns : h₁.Ns s.heap.objs.size (fun x => ((ps.map nm).zip xs).reverse.lookup x)) (hk₁ : ∀ b o, s.heap.get? b = some o → h₁.get? b = some o) : St W ⟨A', hideAll s.heap ads, s.heap.objs.size, env, [], []⟩ ads ⟨l, []⟩ σ h₁ := by
  obtain ⟨z1, z2⟩ := zipN_look ps vs xs l hps hpn el hv
  refine ⟨⟨_, ⟨hns, fun b o e => hk₁ b o (of_hideAll _ e), Nat.le_of_eq (hideAll_size _ _)⟩, fun k v e => ?_⟩, (fun k c e => by cases e), S.nd, S.len, fun a ha => ?_, fun k ao e => ?_, fun p hp => absurd (show p ∈ ([] : List (Addr × Obj)) from hp) List.not_mem_nil⟩
  · obtain ⟨j1, x, j2, j3⟩ := z1 k v e
    exact ⟨hpn k j1, x, j2, j3⟩
  · obtain ⟨_, _, o, e⟩ := S.new a ha
    exact ⟨Nat.ne_of_lt (Heap.lt_size e), hideAll_none _ ha, o, hk₁ _ _ e⟩
  · obtain ⟨a, o, e1, e2, e3⟩ := S.obj k ao e
    exact ⟨a, o, e1, hk₁ _ _ e2, e3⟩
/-- inside: the first next of what is exhausted -/
theorem ends_in {w v : Str} {wp vp dp ap : Pos} {t : Expr} {rest : List Stmt} {ads : List Addr} {σ σ₁ : Sto} {ki l : Nat} {done ps : List Pc} {s : Shared} {Q : Flow → Shared → Prop} {E : Value → Shared → Prop} (O : Ok W n cx)
    (hv' : nm 43 = v) (hl2 : cx.env.scope.names.lookup v = some .local) (hvd : (v == ("__debug__" : Str)) = false) (hwd : (w == ("__debug__" : Str)) = false)
    (ew : nsIn W.K mainGlobals w = some none) (bw : bootBuiltins w = some (.builtin "next")) (nw : w ≠ "__name__") (kw : cx.env.scope.names.lookup w = some .globalImplicit)
    (hsw : swapsWithSole [t] (.Call (.Name w wp) [.Name v vp] [] dp) ap.line cx.env = pure false) (hss : swappedStores [t] (.Call (.Name w wp) [.Name v vp] [] dp) cx.env = pure none)
    (S : St W cx ads ⟨[(43, .ref ki)], []⟩ σ s.heap) (ek : σ.get ki = some (.piter l done)) (el : σ.get l = some (.pints ps)) (ed : dropP ps done = some []) (ep : σ.put ki .dead = some σ₁)
    (hE : ∀ ads' h h' e tk, Ext ads ads' → St W cx ads' ⟨[(43, .ref ki)], []⟩ σ₁ h → Heap.MadeExcOf h h' e (.type "StopIteration") [] → E (.ref e) { s with heap := h', toks := tk }) :
    wpAny (model W.prog W.w) cx.A (execs (.Assign [t] (.Call (.Name w wp) [.Name v vp] [] dp) ap :: rest) cx.env) Q E s := by
  refine wpAny_execs_cons (wpAny_Assign_stores ?_ hsw hss)
  refine wpAny_Call_NameR (sBui O ew bw nw kw hwd _ _ _ _ _ _ rfl s _ _ S fun ads₅ y₅ h₅ tk₅ X₅ r₅ S₅ => ?_)
  cases r₅
  refine callWith_of (P := fun h => W.K.In h) rfl Kp.builtin ?_
  have el2 : (bnd (dLoc 43) fun v => bnd (ret []) fun vs => ret (v :: vs)) ⟨[(43, .ref ki)], []⟩ σ = some ([.ref ki], ⟨[(43, .ref ki)], []⟩, σ) := rfl
  refine evalArgs_T (sArgs (sLoc O 43 hv' hl2 hvd) sArgs0) rfl el2 S₅ fun ads₆ xs₆ h₆ tk₆ X₆ r₆ S₆ => ⟨S₆.inA O, ?_⟩
  obtain ⟨x6, rfl, hx6⟩ := VRs.one r₆
  obtain ⟨it6, oi6, rfl, eit6, hoi6, la6, ela6, hci6, hdi6⟩ := S₆.at hx6 ek
  obtain ⟨la6', ol6, e26, hol6, lvs, ln, rfl, hints⟩ := S₆.obj l _ el
  cases Option.some.inj (ela6.symm.trans e26)
  have hlen : lvs.length = (denT W.q done).length := by
    have h1 := VRs.length (IntsAre.nats (q := W.q) (ads := ads₆) hints)
    rw [List.length_map] at h1
    have h2 := dropP_denE W.q ps done [] ed
    rw [h2] at h1
    simpa [denT] using h1.symm
  refine next_end (by exact O.hh) hoi6 hci6 hdi6 (la := la6) (xs := lvs.toArray) ⟨_, hol6, rfl, _, rfl⟩ (by rw [Array.getElem?_eq_none]; simp [hlen]) fun h h' e hext hit hmade => ?_
  obtain ⟨oit, hoit, _⟩ := hit
  exact hE ads₆ h h' e tk₆ (X₅.trans X₆) (S₆.upd (ao := .dead) eit6 hext hoit trivial ep) hmade
/-- the try around the call -/
theorem ends_try {g : Addr} {name2 qual2 : Str} {params2 : Arguments} {rest1 rest2 B2 : List Stmt} {scope2 : Scope} {dV2 kV2 doc2 pm2 cdv2 ct2 oc2 : Value} {an2 od2 : Option Addr} {osl2 : Array (Option Value)}
    {x y z w v : Str} {xp yp zp wp vp cp ep rp hp tp bp dp ap : Pos} {kk : Nat} {t : Expr} {ads : List Addr} {σ σ₁ : Sto} {ki l : Nat} {done ps : List Pc} {s : Shared} {Q : Flow → Shared → Prop} {E : Value → Shared → Prop} {B : Heap} {fs0 : List Env} (O : Ok W (n + 1) cx)
    (hB2 : B2 = .Assign [t] (.Call (.Name w wp) [.Name v vp] [] dp) ap :: rest2)
    (ho2 : W.K.lookup g = some ⟨oc2, od2, .func (fnOf name2 qual2 params2 B2 scope2 dV2 kV2 doc2 pm2 an2 cdv2 ct2), osl2⟩) (hcd2 : codeIn W.K cdv2 qual2 = true)
    (hb2 : ∀ (s : Shared) (u : Value), BindsTo s (fnOf name2 qual2 params2 B2 scope2 dV2 kV2 doc2 pm2 an2 cdv2 ct2) ⟨[u], []⟩ [(nm 43, u)])
    (hx : nm 83 = x) (hv' : nm 43 = v) (hl1 : cx.env.scope.names.lookup x = some .local) (hl2 : scope2.names.lookup v = some .local) (hcell2 : ∀ x ∈ scope2.names, x.2 ≠ .cell)
    (hxd : (x == ("__debug__" : Str)) = false) (hvd : (v == ("__debug__" : Str)) = false) (hyd : (y == ("__debug__" : Str)) = false) (hzd : (z == ("__debug__" : Str)) = false) (hwd : (w == ("__debug__" : Str)) = false)
    (ey : nsIn W.K mainGlobals y = some (some (.ref g))) (ez : nsIn W.K mainGlobals z = some none) (ew : nsIn W.K mainGlobals w = some none) (bz : bootBuiltins z = some (.type "StopIteration")) (bw : bootBuiltins w = some (.builtin "next")) (nz : z ≠ "__name__") (nw : w ≠ "__name__")
    (ky : cx.env.scope.names.lookup y = some .globalImplicit) (kz : cx.env.scope.names.lookup z = some .globalImplicit) (kw : scope2.names.lookup w = some .globalImplicit) (hKp : Kp W (.ref g))
    (hco2 : scope2.isCoroutine = false) (hgen2 : scope2.isGenerator = false) (hk2 : scope2.kind = .function)
    (hsw : ∀ env, swapsWithSole [t] (.Call (.Name w wp) [.Name v vp] [] dp) ap.line env = pure false) (hss : ∀ env, swappedStores [t] (.Call (.Name w wp) [.Name v vp] [] dp) env = pure none)
    (q1 : cx.A.frames = some (cx.env :: fs0)) (hf1 : cx.env.frame = some cx.N) (KB : W.K.In B) (TB : Top W.p W.loose W.mean W.mg W.mb B)
    (hB : ∀ ads' σ' h, Ext ads ads' → St W cx ads' ⟨[(83, .ref ki)], []⟩ σ' h → (∀ b o, B.get? b = some o → h.get? b = some o) ∧ ∀ a ∈ (cx.env :: fs0).filterMap (·.frame), a ∉ ads' ∧ B.get? a = none)
    (S : St W cx ads ⟨[(83, .ref ki)], []⟩ σ s.heap) (ek : σ.get ki = some (.piter l done)) (el : σ.get l = some (.pints ps)) (ed : dropP ps done = some []) (eput : σ.put ki .dead = some σ₁)
    (hQ : ∀ ads' h h' tk (fa : List Addr), Ext ads ads' → St W cx ads' ⟨[(83, .ref ki)], []⟩ σ₁ h → (∀ b o, h.get? b = some o → b ∉ fa → h'.get? b = some o) → h.UpToSlots h' →
      (∀ a ∈ fa, a ∉ ads' ∧ B.get? a = none ∧ ∃ o, h.get? a = some o ∧ ∀ vs, o.data ≠ .fields vs) → Q (.ret (.bool true)) { s with heap := h', toks := tk }) :
    wpAny (model W.prog W.w) cx.A (execs (.Try [.Expr (.Call (.Name y yp) [.Name x xp] [] cp) ep] [.ExceptHandler (some (.Name z zp)) none [.Return (some (.Constant (.bool true) kk bp)) rp] hp] [] [] tp :: rest1) cx.env) Q E s := by
  have hint : interactive cx.env = false := by
    dsimp only [interactive]
    rw [show cx.env.scope.kind = _ from O.fk]; rfl
  refine wpAny_execs_cons (wpAny_Try_except (wpAny_execs_cons (wpAny_Expr_any ?_ hint rfl)))
  refine wpAny_Call_NameR (sGlob O ey ky hyd _ _ _ _ _ _ rfl s _ _ S fun ads₂ y₂ h₂ tk₂ X₂ r₂ S₂ => ?_)
  cases r₂
  refine callWith_of (P := fun h => W.K.In h) rfl hKp ?_
  have el1 : (bnd (dLoc 83) fun v => bnd (ret []) fun vs => ret (v :: vs)) ⟨[(83, .ref ki)], []⟩ σ = some ([.ref ki], ⟨[(83, .ref ki)], []⟩, σ) := rfl
  refine evalArgs_T (sArgs (sLoc O 83 hx hl1 hxd) sArgs0) rfl el1 S₂ fun ads₃ xs₃ h₃ tk₃ X₃ r₃ S₃ => ⟨S₃.inA O, ?_⟩
  obtain ⟨x3, rfl, it, eit, hx3⟩ := VRs.one r₃
  cases hx3
  have X23 := X₂.trans X₃
  obtain ⟨mS3, FS3, _⟩ := S₃.open
  refine wpAny_call (codeAny_call_def (o := _) (binds := [(nm 43, .ref it)]) (by have := O.dp; lia) (S₃.inA O _ _ ho2) rfl (O.top.nolimit.keeps FS3.keep) (codeRec_of (S₃.inA O) hcd2) rfl (hb2 _ _) hcell2 (fun q hq => by obtain rfl := List.mem_singleton.mp hq; exact (hv') ▸ hl2) (fun h₄ hns₄ hk₄ => ?_) hco2 hgen2 hk2)
  generalize henv : callEnv (fnOf name2 qual2 params2 B2 scope2 dV2 kV2 doc2 pm2 an2 cdv2 ct2) h₃.objs.size g = env2
  have O2 : Ok W n ⟨cx.A.deeper env2, hideAll h₃ ads₃, h₃.objs.size, env2, [], []⟩ := henv ▸ O.push S₃ rfl rfl hk2 rfl rfl rfl (Nat.le_refl _)
  have S4 : St W ⟨cx.A.deeper env2, hideAll h₃ ads₃, h₃.objs.size, env2, [], []⟩ ads₃ ⟨[(43, .ref ki)], []⟩ σ h₄ := St.enter (s := { s with heap := h₃, toks := tk₃ }) S₃ (ps := [43]) (vs := [.ref ki]) (xs := [.ref it]) (by decide) (by decide) rfl ⟨⟨it, eit, rfl⟩, trivial⟩ hns₄ hk₄
  have hsc : env2.scope = scope2 := henv ▸ rfl
  have hfr : env2.frame = some h₃.objs.size := henv ▸ rfl
  simp only [hB2]
  refine ends_in (n := n) (cx := ⟨cx.A.deeper env2, hideAll h₃ ads₃, h₃.objs.size, env2, [], []⟩) O2 hv' (hsc ▸ hl2) hvd hwd ew bw nw (hsc ▸ kw) (hsw _) (hss _) (s := { s with heap := h₄, toks := _ }) S4 ek el ed eput fun ads₆ h h' e tk X₆ S₇ hmade => ?_
  have X36 := X23.trans X₆
  have S₈ := S₃.back rfl S₇ X₆
  obtain ⟨m₇, F₇, _⟩ := S₇.open
  obtain ⟨k1, k2⟩ := hB ads₆ _ _ X36 S₈
  have g1' := Around.frames_deeper (env := env2) q1
  obtain ⟨b₀, fs', g1, g2⟩ := O2.fr
  cases Option.some.inj (g1.symm.trans g1')
  have FF := (g2 h m₇ F₇ fun p hp => absurd (show p ∈ ([] : List (Addr × Obj)) from hp) List.not_mem_nil).2
  have hfa : ∀ a ∈ (env2 :: cx.env :: fs0).filterMap (·.frame), a ∉ ads₆ ∧ B.get? a = none ∧ ∃ o, h.get? a = some o ∧ ∀ vs, o.data ≠ .fields vs := fun a ha => by
    refine ⟨?_, ?_, (FF.mem ha).2⟩
    all_goals
      obtain ⟨env, he, hf⟩ := List.mem_filterMap.mp ha
      rcases List.mem_cons.mp he with rfl | he
    · cases Option.some.inj (hfr.symm.trans hf)
      exact fun q => (S₇.new _ q).1 rfl
    · exact (k2 a (List.mem_filterMap.mpr ⟨env, he, hf⟩)).1
    · cases Option.some.inj (hfr.symm.trans hf)
      cases q : B.get? h₃.objs.size with
      | none => rfl
      | some o' => exact absurd (Heap.lt_size ((hB ads₃ _ _ X23 S₃).1 _ _ q)) (Nat.lt_irrefl _)
    · exact (k2 a (List.mem_filterMap.mpr ⟨env, he, hf⟩)).2
  have FH : h.FunFrames (hideAll h ((env2 :: cx.env :: fs0).filterMap (·.frame))) (env2 :: cx.env :: fs0) := funFrames_hide FF fun env he a ha => List.mem_filterMap.mpr ⟨env, he, ha⟩
  generalize (env2 :: cx.env :: fs0).filterMap (·.frame) = fa at hfa FH
  refine wpAny_leaves_madeW (base := hideAll h fa) g1' hfr (fun b o e => of_hideAll _ e) FH hmade fun h7 t7 fl7 _ _ up7 => ?_
  refine wpAny_looks_onW q1 hf1 fl7 fun h8 held8 up8 => ?_
  refine wpAny_landsW held8 fun h9 fl9 up9 => ?_
  have stB : B.StaysIn h9 := fun b o e => fl9.1 b o (hideAll_get _ (k1 b o e) fun q => by
    have := (hfa b q).2.1
    cases (e).symm.trans this)
  obtain ⟨oe, hoe, hoec⟩ := fl9.there
  refine wpAny_handleBy_builtin (X := "StopIteration") (T := "StopIteration") (b := true) (by rw [isSubtype_type]; kernel_rfl) (by rw [isSubtype_type]; kernel_rfl) isSubtype_stop (Name_function_global O.fk kz (loadGlobal_builtin (mg := W.mg) (mb := W.mb) (by rw [O.gl]; exact TB.g.keeps stB) (mg_none_of KB TB.g ez) (by exact (O.bi) ▸ TB.b.keeps stB) ((TB.builtins z nz).trans bz) ⟨rfl, ⟨oe, hoe, hoec⟩, ?_⟩) hzd)
  refine lands_againW fl9 fun h10 fl10 up10 => ?_
  refine wpAny_execs_cons (wpAny_Return_some (wpAny_Constant_bool ?_))
  exact hQ ads₆ h h10 _ fa X36 S₈ (fun b o e q => fl10.1 b o (hideAll_get _ e q)) ((Heap.UpToSlots.of_keeps hmade.keeps).trans (up7.trans (up8.trans (up9.trans up10)))) hfa
theorem SCx_ends {f g : Addr} {name1 qual1 name2 qual2 : Str} {params1 params2 : Arguments} {rest1 rest2 B1 B2 : List Stmt} {scope1 scope2 : Scope} {dV1 kV1 doc1 pm1 cdv1 ct1 oc1 dV2 kV2 doc2 pm2 cdv2 ct2 oc2 : Value} {an1 od1 an2 od2 : Option Addr} {osl1 osl2 : Array (Option Value)}
    {x y z w v : Str} {xp yp zp wp vp cp ep rp hp tp bp dp ap : Pos} {kk : Nat} {t : Expr}
    (ho1 : W.K.lookup f = some ⟨oc1, od1, .func (fnOf name1 qual1 params1 B1 scope1 dV1 kV1 doc1 pm1 an1 cdv1 ct1), osl1⟩) (hcd1 : codeIn W.K cdv1 qual1 = true)
    (ho2 : W.K.lookup g = some ⟨oc2, od2, .func (fnOf name2 qual2 params2 B2 scope2 dV2 kV2 doc2 pm2 an2 cdv2 ct2), osl2⟩) (hcd2 : codeIn W.K cdv2 qual2 = true)
    (hb1 : ∀ (s : Shared) (u : Value), BindsTo s (fnOf name1 qual1 params1 B1 scope1 dV1 kV1 doc1 pm1 an1 cdv1 ct1) ⟨[u], []⟩ [(nm 83, u)])
    (hb2 : ∀ (s : Shared) (u : Value), BindsTo s (fnOf name2 qual2 params2 B2 scope2 dV2 kV2 doc2 pm2 an2 cdv2 ct2) ⟨[u], []⟩ [(nm 43, u)])
    (hx : nm 83 = x) (hv' : nm 43 = v) (hl1 : scope1.names.lookup x = some .local) (hl2 : scope2.names.lookup v = some .local) (hcell1 : ∀ x ∈ scope1.names, x.2 ≠ .cell) (hcell2 : ∀ x ∈ scope2.names, x.2 ≠ .cell)
    (hxd : (x == ("__debug__" : Str)) = false) (hvd : (v == ("__debug__" : Str)) = false) (hyd : (y == ("__debug__" : Str)) = false) (hzd : (z == ("__debug__" : Str)) = false) (hwd : (w == ("__debug__" : Str)) = false)
    (ey : nsIn W.K mainGlobals y = some (some (.ref g))) (ez : nsIn W.K mainGlobals z = some none) (ew : nsIn W.K mainGlobals w = some none) (bz : bootBuiltins z = some (.type "StopIteration")) (bw : bootBuiltins w = some (.builtin "next")) (nz : z ≠ "__name__") (nw : w ≠ "__name__")
    (ky : scope1.names.lookup y = some .globalImplicit) (kz : scope1.names.lookup z = some .globalImplicit) (kw : scope2.names.lookup w = some .globalImplicit) (hKp : Kp W (.ref g))
    (hco1 : scope1.isCoroutine = false) (hgen1 : scope1.isGenerator = false) (hk1 : scope1.kind = .function) (hco2 : scope2.isCoroutine = false) (hgen2 : scope2.isGenerator = false) (hk2 : scope2.kind = .function)
    (hsw : ∀ env, swapsWithSole [t] (.Call (.Name w wp) [.Name v vp] [] dp) ap.line env = pure false) (hss : ∀ env, swappedStores [t] (.Call (.Name w wp) [.Name v vp] [] dp) env = pure none) (hB1 : B1 = .Try [.Expr (.Call (.Name y yp) [.Name x xp] [] cp) ep] [.ExceptHandler (some (.Name z zp)) none [.Return (some (.Constant (.bool true) kk bp)) rp] hp] [] [] tp :: rest1) (hB2 : B2 = .Assign [t] (.Call (.Name w wp) [.Name v vp] [] dp) ap :: rest2) : SCx W Pr1 (n + 2) (.ref f) F_law_ends := by
  intro cx O hfro ads vs xs hv ρ σ v₀ σ' hd s R S k
  refine opq fun PP oo => ?_
  dsimp only [F_law_ends, f1] at hd
  split at hd
  · rename_i av
    dsimp only [gEnds] at hd
    split at hd
    · rename_i ki
      split at hd
      · rename_i l done ek
        split at hd
        · rename_i ps el
          split at hd
          · rename_i ed
            split at hd
            · rename_i σ₁ eput
              refine oo ?_
              cases hd
              obtain ⟨xv, rfl, it, eit, hxv⟩ := VRs.one hv
              cases hxv
              have X := S.inA O
              obtain ⟨mS, FS, _⟩ := S.open
              obtain ⟨fs0, q1, q2⟩ := hfro
              refine codeAny_call_def (o := _) (binds := [(nm 83, .ref it)]) (by have := O.dp; lia) (X _ _ ho1) rfl (O.top.nolimit.keeps FS.keep) (codeRec_of X hcd1) rfl (hb1 s _) hcell1 (fun q hq => by obtain rfl := List.mem_singleton.mp hq; exact (hx) ▸ hl1) (fun h₁ hns₁ hk₁ => ?_) hco1 hgen1 hk1
              generalize henv : callEnv (fnOf name1 qual1 params1 B1 scope1 dV1 kV1 doc1 pm1 an1 cdv1 ct1) s.heap.objs.size f = env1
              have O1 : Ok W (n + 1) ⟨cx.A.deeper env1, hideAll s.heap ads, s.heap.objs.size, env1, [], []⟩ := henv ▸ O.push S rfl rfl hk1 rfl rfl rfl (Nat.le_refl _)
              have S1 : St W ⟨cx.A.deeper env1, hideAll s.heap ads, s.heap.objs.size, env1, [], []⟩ ads ⟨[(83, .ref ki)], []⟩ σ h₁ := S.enter (ps := [83]) (vs := [.ref ki]) (xs := [.ref it]) (by decide) (by decide) rfl ⟨⟨it, eit, rfl⟩, trivial⟩ hns₁ hk₁
              have hsc : env1.scope = scope1 := henv ▸ rfl
              have hfr : env1.frame = some s.heap.objs.size := henv ▸ rfl
              rw [hB1]
              refine ends_try (n := n) (cx := ⟨cx.A.deeper env1, hideAll s.heap ads, s.heap.objs.size, env1, [], []⟩) O1 hB2 ho2 hcd2 hb2 hx hv' (hsc ▸ hl1) hl2 hcell2 hxd hvd hyd hzd hwd ey ez ew bz bw nz nw (hsc ▸ ky) (hsc ▸ kz) kw hKp hco2 hgen2 hk2 hsw hss (Around.frames_deeper q1) hfr O.kin O.top (fun ads' σ' h X S' => ?_) (s := { s with heap := h₁, toks := _ }) S1 ek el ed eput fun ads' h h' tk fa X S' hk up hfa => ?_
              · have S₉ := S.back rfl S' X
                obtain ⟨m₉, F₉, _⟩ := S₉.open
                refine ⟨F₉.keep, fun a ha => ?_⟩
                obtain ⟨env, he, hf⟩ := List.mem_filterMap.mp ha
                rcases List.mem_cons.mp he with rfl | he
                · cases Option.some.inj (hfr.symm.trans hf)
                  refine ⟨fun q => (S'.new _ q).1 rfl, ?_⟩
                  cases q : cx.base.get? s.heap.objs.size with
                  | none => rfl
                  | some o' => exact absurd (Heap.lt_size (FS.keep _ _ q)) (Nat.lt_irrefl _)
                · rcases q2 env he a hf with rfl | ⟨o, ho⟩
                  · exact ⟨fun q => (S₉.new _ q).1 rfl, fr_selfNone F₉⟩
                  · exact (S₉.pv (a, o) (List.mem_append_right _ ho)).2.2
              · exact k ads' _ h' _ X rfl ((S.back rfl S' X).slots hk up hfa)
            · exact nos hd
          · exact nos hd
        · exact nos hd
      · exact nos hd
    · exact nos hd
  · exact nos hd
end

/-! less is told, under new numbers -/
noncomputable def mkS : List AO → Sto → Option Sto
  | [], σ => some σ
  | o :: r, σ => match σ.new o with
    | some (_, σ') => mkS r σ'
    | none => none
noncomputable def memB (a : Nat) : List Nat → Bool
  | [] => false
  | b :: r => match Nat.beq a b with | true => true | false => memB a r
noncomputable def nodupB : List Nat → Bool
  | [] => true
  | a :: r => match memB a r with | true => false | false => nodupB r
noncomputable def oB {α β : Type} (x : Option α) (f : α → Option β) : Option β := match x with
  | some a => f a
  | none => none
theorem oB_elim {α β : Type} {x : Option α} {f : α → Option β} {r : β} {P : Prop} (h : oB x f = some r) (k : ∀ a, x = some a → f a = some r → P) : P := by
  cases x with
  | none => exact nos h
  | some a => exact k a rfl h
noncomputable def ixF (i : Nat) : Nat → List Nat → Option Nat
  | _, [] => none
  | n, a :: r => match Nat.beq a i with
    | true => some n
    | false => ixF i (n + 1) r
theorem ixF_is {i : Nat} : ∀ {f : List Nat} {n k : Nat}, ixF i n f = some k → ∃ d, k = n + d ∧ f[d]? = some i
  | [], _, _, h => nos h
  | a :: r, n, k, h => by
    dsimp only [ixF] at h
    cases hb : Nat.beq a i with
    | true => rw [hb] at h; cases h; exact ⟨0, rfl, congrArg some (Nat.eq_of_beq_eq_true hb)⟩
    | false =>
      rw [hb] at h
      obtain ⟨d, rfl, e⟩ := ixF_is h
      exact ⟨d + 1, Nat.succ_add_eq_add_succ n d, e⟩
theorem ixF_at {i k : Nat} {f : List Nat} (h : ixF i 0 f = some k) : f[k]? = some i := by
  obtain ⟨d, rfl, e⟩ := ixF_is h
  exact (congrArg (f[·]?) (Nat.zero_add d)).trans e
noncomputable def renV (f : List Nat) : AV → Option AV
  | .ref i => oB (ixF i 0 f) fun k => some (.ref k)
  | .kref _ => none
  | .none => some .none
  | .bool b => some (.bool b)
  | .lin a b => some (.lin a b)
  | .str s => some (.str s)
  | .txt l => some (.txt l)
  | .wr v => some (.wr v)
  | .ty n => some (.ty n)
noncomputable def renVs (f : List Nat) : List AV → Option (List AV)
  | [] => some []
  | a :: r => oB (renV f a) fun b => oB (renVs f r) fun t => some (b :: t)
noncomputable def renN (f : List Nat) : List Nat → Option (List Nat)
  | [] => some []
  | i :: r => oB (ixF i 0 f) fun k => oB (renN f r) fun t => some (k :: t)
noncomputable def renO (f : List Nat) : AO → Option AO
  | .list l => oB (renVs f l) fun m => some (.list m)
  | .tup l => oB (renVs f l) fun m => some (.tup m)
  | .cell c => (match c with | none => some (.cell none) | some a => oB (renV f a) fun b => some (.cell (some b)))
  | .fn i c => oB (renN f c) fun d => some (.fn i d)
  | _ => none
noncomputable def renOs (σ : Sto) (f : List Nat) : List Nat → Option (List AO)
  | [] => some []
  | i :: r => oB (σ.get i) fun o => oB (renO f o) fun p => oB (renOs σ f r) fun t => some (p :: t)
noncomputable def renL (ρ : Loc) (f : List Nat) : List Nat → Option (List (Nat × AV))
  | [] => some []
  | k :: r => oB (look ρ.loc k) fun v => oB (renV f v) fun v' => oB (renL ρ f r) fun t => some ((k, v') :: t)
noncomputable def renC (f : List Nat) : List (Nat × Nat) → Option (List (Nat × Nat))
  | [] => some []
  | p :: r => oB (ixF p.2 0 f) fun c => oB (renC f r) fun t => some ((p.1, c) :: t)
/-! a way to tell anew: what can be reached -/
noncomputable def refsV : AV → List Nat
  | .ref k => [k]
  | _ => []
noncomputable def refsL : List AV → List Nat
  | [] => []
  | a :: r => refsV a ++ refsL r
noncomputable def refsO : AO → List Nat
  | .list l => refsL l
  | .tup l => refsL l
  | .cell (some v) => refsV v
  | .fn _ c => c
  | _ => []
noncomputable def reach (σ : Sto) : Nat → List Nat → List Nat → List Nat
  | 0, _, acc => acc.reverse
  | _ + 1, [], acc => acc.reverse
  | f + 1, k :: t, acc => match memB k acc with
    | true => reach σ f t acc
    | false => match σ.get k with
      | some o => reach σ f (t ++ refsO o) (k :: acc)
      | none => reach σ f t acc
noncomputable def rootL (ρ : Loc) : List Nat → List Nat
  | [] => []
  | k :: r => match look ρ.loc k with
    | some v => refsV v ++ rootL ρ r
    | none => rootL ρ r
noncomputable def normF (f ks : List Nat) (d : Mo Fl) : Mo Fl := fun ρ σ => match nodupB f with
  | true => oB (renOs σ f f) fun os => oB (renL ρ f ks) fun l => oB (renC f ρ.cel) fun c => oB (mkS os ⟨0, .nil⟩) fun σ' => d ⟨l, c⟩ σ'
  | false => none
/-- a state told anew: what can be reached, under new numbers -/
noncomputable def normM (ks : List Nat) (d : Mo Fl) : Mo Fl := fun ρ σ => normF (reach σ 400 (0 :: 1 :: (snds ρ.cel ++ rootL ρ ks)) []) ks d ρ σ
theorem memB_is : ∀ {a : Nat} {l : List Nat}, memB a l = false → a ∉ l
  | a, [], _ => List.not_mem_nil
  | a, b :: r, h => by
    dsimp only [memB] at h
    rw [beq_dec] at h
    refine (Classical.em (a = b)).elim (fun q => ?_) fun q => ?_
    · simp [q] at h
    · simp only [q, decide_false] at h
      intro hm
      rcases List.mem_cons.mp hm with hm | hm
      · exact q hm
      · exact memB_is h hm
theorem nodupB_is : ∀ {l : List Nat}, nodupB l = true → l.Nodup
  | [], _ => List.nodup_nil
  | a :: r, h => by
    dsimp only [nodupB] at h
    split at h
    · injection h
    · rename_i hm
      exact List.nodup_cons.mpr ⟨memB_is hm, nodupB_is h⟩
theorem mkS_get : ∀ (l : List AO) (σ σ' : Sto), mkS l σ = some σ' → (∀ j, σ.next ≤ j → σ.get j = none) → σ'.next = σ.next + l.length ∧ ∀ j ao, σ'.get j = some ao → σ.get j = some ao ∨ (σ.next ≤ j ∧ l[j - σ.next]? = some ao)
  | [], σ, σ', h, w => by cases h; exact ⟨rfl, fun j ao e => .inl e⟩
  | o :: r, σ, σ', h, w => by
    dsimp only [mkS] at h
    split at h
    · rename_i k σ₁ e
      have hn := Sto.new_get e
      obtain ⟨h1, h2⟩ := mkS_get r σ₁ σ' h fun j hj => by
        rw [(hn 0).2.1] at hj
        rw [(hn j).2.2, if_neg (by rw [(hn 0).1]; lia)]
        exact w j (by lia)
      refine ⟨by simp only [h1, (hn 0).2.1]; simp; lia, fun j ao ej => ?_⟩
      rcases h2 j ao ej with h2 | ⟨h2, h3⟩
      · rw [(hn j).2.2] at h2
        refine (Classical.em (j = k)).elim (fun q => ?_) fun q => ?_
        · replace h2 := (if_pos q).symm.trans h2
          cases Option.some.inj h2
          right
          rw [q, (hn 0).1]
          exact ⟨Nat.le_refl _, by simp⟩
        · replace h2 := (if_neg q).symm.trans h2
          exact .inl h2
      · right
        rw [(hn 0).2.1] at h2 h3
        refine ⟨by lia, ?_⟩
        rw [show j - σ.next = (j - (σ.next + 1)) + 1 by lia]
        exact h3
    · exact nos h
section
variable {W : Wo} {cx : Cx} {n : Nat}
variable {ads ads' : List Addr} {f : List Nat}
theorem renV_VR (hf : ∀ k j : Nat, f[k]? = some j → ∃ a, ads'[k]? = some a ∧ ads[j]? = some a) {v v' : AV} {x : Value} (h : renV f v = some v') (hv : VR W.q ads v x) : VR W.q ads' v' x := by
  cases v with
  | ref i =>
    refine oB_elim h fun k e h => ?_
    cases h
    obtain ⟨a, e1, e2⟩ := hf k i (ixF_at e)
    obtain ⟨b, e3, r⟩ := hv
    cases e2.symm.trans e3
    exact ⟨a, e1, r⟩
  | kref _ => exact nos h
  | none => cases h; exact hv
  | bool b => cases h; exact hv
  | lin a b => cases h; exact hv
  | str s => cases h; exact hv
  | txt l => cases h; exact hv
  | wr u => cases h; exact hv
  | ty n => cases h; exact hv
theorem renVs_VRs (hf : ∀ k j : Nat, f[k]? = some j → ∃ a, ads'[k]? = some a ∧ ads[j]? = some a) : ∀ {l m : List AV} {xs : List Value}, renVs f l = some m → VRs W.q ads l xs → VRs W.q ads' m xs
  | [], m, [], h, _ => by cases h; trivial
  | a :: r, m, x :: xs, h, hv => by
    refine oB_elim h fun b e1 h => oB_elim h fun t e2 h => ?_
    cases h
    exact ⟨renV_VR hf e1 hv.1, renVs_VRs hf e2 hv.2⟩
  | [], _, _ :: _, _, h => h.elim
  | _ :: _, _, [], _, h => h.elim
theorem renN_caps (hf : ∀ k j : Nat, f[k]? = some j → ∃ a, ads'[k]? = some a ∧ ads[j]? = some a) : ∀ {c d : List Nat} {cs : List Addr}, renN f c = some d → c.map (fun c => ads[c]?) = cs.map some → d.map (fun c => ads'[c]?) = cs.map some
  | [], d, cs, h, e => by cases h; exact e
  | i :: r, d, [], h, e => nomatch e
  | i :: r, d, a :: cs, h, e => by
    refine oB_elim h fun k e1 h => oB_elim h fun t e2 h => ?_
    cases h
    obtain ⟨b, e3, e4⟩ := hf k i (ixF_at e1)
    have e5 := List.cons.inj e
    cases e4.symm.trans e5.1
    exact List.cons_eq_cons.mpr ⟨e3, renN_caps hf e2 e5.2⟩
theorem renO_OR (hf : ∀ k j : Nat, f[k]? = some j → ∃ a, ads'[k]? = some a ∧ ads[j]? = some a) {o o' : AO} {b : Obj} (h : renO f o = some o') (hv : ORw W ads o b) : ORw W ads' o' b := by
  cases o with
  | list l => exact oB_elim h fun m e h => by cases h; obtain ⟨vs, n, e', r⟩ := hv; exact ⟨vs, n, e', renVs_VRs hf e r⟩
  | tup l => exact oB_elim h fun m e h => by cases h; obtain ⟨vs, n, e', r⟩ := hv; exact ⟨vs, n, e', renVs_VRs hf e r⟩
  | cell c => cases c with
    | none => cases h; exact hv
    | some a => exact oB_elim h fun m e h => by cases h; obtain ⟨v, e', r⟩ := hv; exact ⟨v, e', renV_VR hf e r⟩
  | fn i c => exact oB_elim h fun m e h => by cases h; obtain ⟨cs, e', r⟩ := hv; exact ⟨cs, renN_caps hf e e', r⟩
  | inst => exact nos h
  | dict => exact nos h
  | liter => exact nos h
  | titer => exact nos h
  | tab => exact nos h
  | pints => exact nos h
  | piter => exact nos h
  | rng => exact nos h
  | rvit => exact nos h
  | dead => exact nos h
inductive AtO (σ : Sto) (f l : List Nat) (k : Nat) (o : AO) : Prop
  | mk (i : Nat) (o' : AO) (e : l[k]? = some i) (e1 : σ.get i = some o') (e2 : renO f o' = some o) : AtO σ f l k o
theorem renOs_is {σ : Sto} : ∀ {l : List Nat} {os : List AO}, renOs σ f l = some os → l.length = os.length ∧ ∀ (k : Nat) (o : AO), os[k]? = some o → AtO σ f l k o
  | [], os, h => by cases h; exact ⟨rfl, fun k o e => nomatch e⟩
  | i :: r, os, h => by
    refine oB_elim h fun o' e1 h => oB_elim h fun p e2 h => oB_elim h fun t e3 h => ?_
    cases h
    obtain ⟨h2, h3⟩ := renOs_is e3
    refine ⟨congrArg Nat.succ h2, fun k o e => ?_⟩
    cases k with
    | zero => cases e; exact ⟨i, o', rfl, e1, e2⟩
    | succ k =>
      obtain ⟨j, p', q1, q2, q3⟩ := h3 k o e
      exact ⟨j, p', q1, q2, q3⟩
theorem renL_is {ρ : Loc} : ∀ {ks : List Nat} {l : List (Nat × AV)}, renL ρ f ks = some l → ∀ k v, look l k = some v → ∃ v', look ρ.loc k = some v' ∧ renV f v' = some v
  | [], l, h, k, v, e => by cases h; cases e
  | j :: r, l, h, k, v, e => by
    refine oB_elim h fun v' e1 h => oB_elim h fun w e2 h => oB_elim h fun t e3 h => ?_
    cases h
    dsimp only [look] at e
    cases hb : Nat.beq j k with
    | true =>
      rw [hb] at e
      cases e
      exact ⟨v', Nat.eq_of_beq_eq_true hb ▸ e1, e2⟩
    | false =>
      rw [hb] at e
      exact renL_is e3 k v e
theorem renC_is : ∀ {c d : List (Nat × Nat)}, renC f c = some d → ∀ k i, look d k = some i → ∃ j, look c k = some j ∧ f[i]? = some j
  | [], d, h, k, i, e => by cases h; cases e
  | p :: r, d, h, k, i, e => by
    refine oB_elim h fun x e1 h => oB_elim h fun t e2 h => ?_
    cases h
    dsimp only [look] at e ⊢
    cases hb : Nat.beq p.1 k with
    | true =>
      rw [hb] at e
      cases e
      exact ⟨p.2, rfl, ixF_at e1⟩
    | false =>
      rw [hb] at e
      exact renC_is e2 k i e
theorem St.sub {ρ : Loc} {σ σ' : Sto} {h : Heap} {ks : List Nat} {os : List AO} {l : List (Nat × AV)} {c : List (Nat × Nat)} (S : St W cx ads ρ σ h) (h1 : nodupB f = true) (h2 : renOs σ f f = some os) (h3 : renL ρ f ks = some l) (h4 : renC f ρ.cel = some c)
    (hm : mkS os ⟨0, .nil⟩ = some σ') : ∃ ads', St W cx ads' ⟨l, c⟩ σ' h := by
  obtain ⟨a1, a2⟩ := renOs_is h2
  have nd := nodupB_is h1
  obtain ⟨b1, b2⟩ := mkS_get os _ _ hm fun j _ => rfl
  have hall : ∀ i ∈ f, ∃ a, ads[i]? = some a := fun i hi => by
    obtain ⟨k, hk⟩ := List.getElem?_of_mem hi
    have hlt := (List.getElem?_eq_some_iff.mp hk).1
    obtain ⟨j, o', e1, e2, _⟩ := a2 k _ (List.getElem?_eq_getElem (a1 ▸ hlt))
    cases hk.symm.trans e1
    obtain ⟨a, _, e3, _⟩ := S.obj i o' e2
    exact ⟨a, e3⟩
  let g : Nat → Addr := fun i => (ads[i]?).getD 0
  have hg : ∀ i ∈ f, ads[i]? = some (g i) := fun i hi => by
    obtain ⟨a, e⟩ := hall i hi
    simp only [g, e, Option.getD_some]
  have hf : ∀ k j : Nat, f[k]? = some j → ∃ a, (f.map g)[k]? = some a ∧ ads[j]? = some a := fun k j e =>
    ⟨g j, by simp only [List.getElem?_map, e]; rfl, hg j (List.mem_of_getElem? e)⟩
  obtain ⟨m, F, hmm⟩ := S.open
  refine ⟨f.map g, ⟨m, F, fun k v e => ?_⟩, fun k c e => ?_, ?_, ?_, fun a ha => ?_, fun k ao e => ?_, fun p hp => ?_⟩
  · obtain ⟨v', e1, e2⟩ := renL_is h3 k v e
    obtain ⟨hk, x, e3, e4⟩ := hmm k v' e1
    exact ⟨hk, x, e3, renV_VR hf e2 e4⟩
  · obtain ⟨j, e1, e2⟩ := renC_is h4 k c e
    obtain ⟨a, e3, e4⟩ := S.cel k j e1
    obtain ⟨a', e5, e6⟩ := hf c j e2
    cases e3.symm.trans e6
    exact ⟨_, e5, e4⟩
  · refine List.pairwise_map.mpr (List.Pairwise.imp_of_mem (fun {i j} hi hj hne q => hne ?_) nd)
    exact nodup_get S.nd (hg i hi) (q ▸ hg j hj)
  · simp only [b1, List.length_map, a1]; simp
  · obtain ⟨i, hi, rfl⟩ := List.mem_map.mp ha
    exact S.new _ (List.mem_of_getElem? (hg i hi))
  · rcases b2 k ao e with q | ⟨_, q⟩
    · exact nos q
    · obtain ⟨i, o', e1, e2, e3⟩ := a2 k ao q
      obtain ⟨a, o, e4, e5, e6⟩ := S.obj i o' e2
      obtain ⟨a', e7, e8⟩ := hf k i e1
      cases e4.symm.trans e8
      exact ⟨_, o, e7, e5, renO_OR hf e3 e6⟩
  · obtain ⟨p1, p2, p3, p4⟩ := S.pv p hp
    refine ⟨p1, p2, fun hm => ?_, p4⟩
    obtain ⟨i, hi, e⟩ := List.mem_map.mp hm
    exact p3 (e ▸ List.mem_of_getElem? (hg i hi))
/-! the law's own block: told anew in between -/
noncomputable def TopS (W : Wo) (cx : Cx) (l : List Stmt) (d : Mo Fl) : Prop := ∀ ads ρ σ b ρ' σ', d ρ σ = some (.ret (.bool b), ρ', σ') → ∀ (s : Shared) (Q : Flow → Shared → Prop) (E : Value → Shared → Prop), St W cx ads ρ σ s.heap →
  (∀ ads' h' tk, St W cx ads' ρ' σ' h' → Q (.ret (.bool b)) { s with heap := h', toks := tk }) → wpAny (model W.prog W.w) cx.A (execs l cx.env) Q E s
theorem topOf {l : List Stmt} {d : Mo Fl} (h : TSs W cx l d) : TopS W cx l d := by
  intro ads ρ σ b ρ' σ' hd s Q E S k
  refine h ads _ _ _ _ _ hd s Q E S fun ads' f h' tk X r S' => ?_
  obtain ⟨x, rfl, rx⟩ := r
  subst rx
  exact k ads' h' tk S'
theorem topCons {st : Stmt} {rest : List Stmt} {d e : Mo Fl} (h1 : TS W cx st d) (h2 : TopS W cx rest e) : TopS W cx (st :: rest) (seqM d e) := by
  intro ads ρ σ b ρ' σ' hd s Q E S k
  refine bnd_elim hd fun a ρ₁ σ₁ e1 hd => ?_
  refine wpAny_execs_cons (h1 _ _ _ _ _ _ e1 s _ _ S fun ads₁ x h₁ tk₁ X₁ r₁ S₁ => ?_)
  cases a with
  | next => subst r₁; exact h2 _ _ _ _ _ _ hd { s with heap := h₁, toks := tk₁ } _ _ S₁ fun ads' h' tk S' => k ads' h' tk S'
  | brk => cases hd
  | cont => cases hd
  | ret v => obtain ⟨x, rfl, r₁⟩ := r₁; cases hd; cases r₁; exact k ads₁ h₁ tk₁ S₁
theorem topRe {l : List Stmt} {d : Mo Fl} (i : Nat) {q a b : Int} (hq : W.q = q) (h : TopS W cx l d) : TopS W cx l (reLoc i q a b d) := by
  intro ads ρ σ v ρ' σ' hd s Q E S k
  refine opq fun PP oo => ?_
  dsimp only [reLoc] at hd
  split at hd
  · rename_i c z e
    split at hd
    · rename_i h1 h2
      cases isZ_is h1; cases intB_is h2
      refine oo ?_
      refine h ads _ _ _ _ _ hd s Q E (S.re (fun j v' e' => ?_) (fun _ _ e => e) rfl fun j ao e => ⟨ao, e, fun _ h => h⟩) k
      rw [look_lput] at e'
      refine (Classical.em (i = j)).elim (fun hij => ?_) fun hij => ?_
      · subst hij
        replace e' := (if_pos rfl).symm.trans e'
        cases Option.some.inj e'
        refine ⟨_, e, ?_⟩
        rintro x ⟨t, rfl⟩
        exact ⟨t, by rw [hq, Int.zero_mul, Int.zero_add]⟩
      · replace e' := (if_neg hij).symm.trans e'
        exact ⟨v', e', fun _ h => h⟩
    · exact nos hd
  · exact nos hd
theorem topNm {l : List Stmt} {d : Mo Fl} (ks : List Nat) (h : TopS W cx l d) : TopS W cx l (normM ks d) := by
  intro ads ρ σ v ρ' σ' hd s Q E S k
  dsimp only [normM, normF] at hd
  refine gB hd fun h1 hd => oB_elim hd fun os h2 hd => oB_elim hd fun l h3 hd => oB_elim hd fun c h4 hd => oB_elim hd fun σ₁ hm hd => ?_
  obtain ⟨ads', S'⟩ := S.sub h1 h2 h3 h4 hm
  exact h ads' _ _ _ _ _ hd s Q E S' k
end

/-! the script: a list of the ground -/
noncomputable def PrS (la : Nat) (zs : List Int) (cx : Cx) : Prop := ∃ vs, cx.base.get? la = some (PySem.W.listOf vs.toArray 0) ∧ IntsAre vs zs
theorem IntsAre.len : ∀ {vs : List Value} {zs : List Int}, IntsAre vs zs → vs.length = zs.length
  | [], [], _ => rfl
  | _, _, .cons _ _ h => by simp [IntsAre.len h]
theorem IntsAre.at : ∀ {vs : List Value} {zs : List Int}, IntsAre vs zs → ∀ {j : Nat} {v : Int}, zs[j]? = some v → ∃ t, vs[j]? = some (.int v t)
  | _, _, .nil, j, v, e => by cases e
  | _, _, .cons i t h, 0, v, e => by simp at e; subst e; exact ⟨t, rfl⟩
  | _, _, .cons i t h, j + 1, v, e => by simpa using IntsAre.at h (by simpa using e)
section
variable {W : Wo} {cx : Cx} {n : Nat}
theorem sScrLen {x : Expr} {lx : Str} {p pos : Pos} {dx : Mo AV} {la : Nat} {zs : List Int} (O : Ok W n cx) (hs : PrS la zs cx) (hf : TE W cx (.Name lx p) (ret (.wr (.builtin "len")))) (hx : TE W cx x dx) (hp : ∀ env, (backTo pos (starEach [x] env)).any (·.1) = false := by intro _; rfl)
    (he : ∀ env, starEach (x :: []) env = (false, eval x env) :: starEach [] env := by intro _; rfl) :
    TE W cx (.Call (.Name lx p) [x] [] pos) (bnd dx (fScrLen la zs)) := by
  intro ads ρ σ v ρ' σ' hd s Q E S k
  refine bnd_elim hd fun a ρ₁ σ₁ e1 hd => ?_
  refine wpAny_Call_NameR (hf _ _ _ _ _ _ rfl s _ _ S fun ads₁ y h₁ tk₁ X₁ r₁ S₁ => ?_)
  subst r₁
  refine callWith_of (P := fun h => W.K.In h) (by simp [hp]) Kp.builtin ?_
  have el : (bnd dx fun v => bnd (ret []) fun vs => ret (v :: vs)) ρ σ = some ([a], ρ₁, σ₁) := by
    dsimp only [bnd]; rw [e1]; rfl
  refine evalArgs_T (sArgs hx sArgs0 he) (hp _) el S₁ fun ads₂ xs h₂ tk₂ X₂ r₂ S₂ => ⟨S₂.inA O, ?_⟩
  obtain ⟨y, rfl, ry⟩ := VRs.one r₂
  unfold fScrLen at hd
  split at hd
  · split at hd
    · rename_i hb hl
      replace k := KK.of hd k
      have hqq := Nat.eq_of_beq_eq_true hb; subst hqq
      subst ry
      obtain ⟨vs, hb, hI⟩ := hs
      obtain ⟨m, F, _⟩ := S₂.open
      have hl := Nat.le_of_ble_eq_true hl
      have hlen := IntsAre.len hI
      refine PyProof.Rows.len_list (items := vs.toArray) ⟨_, F.keep _ _ hb, rfl, _, rfl⟩ (by simp; lia) ?_
      exact k ads₂ _ h₂ _ (X₁.trans X₂) (by rw [show (vs.toArray.size : Nat) = zs.length by simp [hlen]]; exact int0_VR) S₂
    · exact nos hd
  · exact nos hd
theorem sScrGet {value slice : Expr} {pos : Pos} {dv di : Mo AV} {la : Nat} {zs : List Int} (hs : PrS la zs cx) (hv : TE W cx value dv) (hi : TE W cx slice di) (hsl : ∀ o i, subscripted slice false o i = operate [o, i] (getItem o i) := by intro _ _; rfl) :
    TE W cx (.Subscript value slice pos) (bnd dv fun a => bnd di fun i => fScrGet la zs a i) := by
  intro ads ρ σ v ρ' σ' hd s Q E S k
  refine bnd_elim hd fun a ρ₁ σ₁ e1 hd => ?_
  refine bnd_elim hd fun i ρ₂ σ₂ e2 hd => ?_
  simp only [eval_Subscript]
  refine wpAny_bind (hv _ _ _ _ _ _ e1 s _ _ S fun ads₁ x h₁ tk₁ X₁ r₁ S₁ => wpAny_bind (wpAny_holding ?_))
  refine hi _ _ _ _ _ _ e2 _ _ _ S₁ fun ads₂ y h₂ tk₂ X₂ r₂ S₂ => wpAny_bind (wpAny_standAt ?_)
  unfold fScrGet at hd
  split at hd
  · split at hd
    · rename_i z b hb
      split at hd
      · rename_i j hz hj
        split at hd
        · rename_i w ew
          replace k := KK.of hd k
          cases Nat.eq_of_beq_eq_true hb
          cases isZ_is hz
          obtain ⟨rfl, hj⟩ := ixN_is hj
          subst r₁
          obtain ⟨t, hqq⟩ := r₂; subst hqq
          rw [Int.zero_mul, Int.zero_add]
          obtain ⟨vs, hb, hI⟩ := hs
          obtain ⟨m, F, _⟩ := S₂.open
          obtain ⟨tw, etw⟩ := IntsAre.at hI ew
          have hl : h₂.IsList la vs.toArray := ⟨_, F.keep _ _ hb, rfl, _, rfl⟩
          refine sub_at (hsl _ _) list_getitem_lookup hl.typeIs (wpAny_getItem_list hl (by lia) (by lia) (x := .int w tw) (by simpa using etw) ?_)
          exact k ads₂ _ h₂ _ (X₁.trans X₂) int0_VR S₂
        · exact nos hd
      · exact nos hd
    · exact nos hd
  · exact nos hd
theorem SCx.re {f : Value} {Pr : Cx → Prop} {G F : List AV → Sto → Option (AV × Sto)} (h : SCx W Pr n f G)
    (hr : ∀ cx ads vs xs ρ σ v σ' (h : Heap), Ok W n cx → VRs W.q ads vs xs → St W cx ads ρ σ h → F vs σ = some (v, σ') → ∃ vs' σ₁ v' σ₂, VRs W.q ads vs' xs ∧ St W cx ads ρ σ₁ h ∧ G vs' σ₁ = some (v', σ₂) ∧
      ∀ ads' y h', Ext ads ads' → VR W.q ads' v' y → St W cx ads' ρ σ₂ h' → ∃ ads'', Ext ads ads'' ∧ VR W.q ads'' v y ∧ St W cx ads'' ρ σ' h') : SCx W Pr n f F := by
  intro cx O hp ads vs xs hv ρ σ v σ' hd s R S k
  obtain ⟨vs', σ₁, v', σ₂, g1, g2, g3, g4⟩ := hr cx ads vs xs ρ σ _ _ s.heap O hv S hd
  refine h cx O hp ads vs' xs g1 ρ σ₁ v' σ₂ g3 s R g2 fun ads' y h' tk X r S' => ?_
  obtain ⟨ads'', X'', r'', S''⟩ := g4 ads' y h' X r S'
  exact k ads'' y h' tk X'' r'' S''
theorem SCx_def {la : Nat} {zs : List Int} {f : Addr} {name qual : Str} {params : Arguments} {body : List Stmt} {scope : Scope} {dV kV doc pm cdv ct oc : Value} {an od : Option Addr} {osl : Array (Option Value)} {ps : List Nat} {d : Mo Fl}
    (ho : W.K.lookup f = some ⟨oc, od, .func (fnOf name qual params body scope dV kV doc pm an cdv ct), osl⟩) (hcd : codeIn W.K cdv qual = true)
    (hbind : ∀ (s : Shared) (xs : List Value), W.K.In s.heap → xs.length = ps.length → BindsTo s (fnOf name qual params body scope dV kV doc pm an cdv ct) ⟨xs, []⟩ ((ps.map nm).zip xs))
    (hps : ps.Nodup) (hpn : ∀ k ∈ ps, k < NN) (hloc : ∀ k ∈ ps, scope.names.lookup (nm k) = some .local)
    (hbody : ∀ cx', Ok W n cx' → PrS la zs cx' → cx'.env = envOf qual scope cx'.N f cdv → TSs W cx' body d)
    (hco : scope.isCoroutine = false := by rfl) (hgen : scope.isGenerator = false := by rfl) (hk : scope.kind = .function := by rfl)
    (hcell : ∀ x ∈ scope.names, x.2 ≠ .cell := by decide) : SCx W (PrS la zs) (n + 1) (.ref f) (defF ps d) := by
  intro cx O hscr ads vs xs hv ρ σ v σ' hd' s R S k
  unfold defF at hd'
  split at hd'
  · rename_i l el
    obtain ⟨m, F, hm⟩ := S.open
    have hlen : xs.length = ps.length := (VRs.length hv).symm.trans (zipN_len ps vs el).symm
    have X := S.inA O
    refine (codeAny_call_def (fd := fnOf name qual params body scope dV kV doc pm an cdv ct) (body := body) (binds := (ps.map nm).zip xs) (by have := O.dp; lia) (X _ _ ho) rfl (O.top.nolimit.keeps F.keep) (codeRec_of X hcd) rfl (hbind _ xs X hlen) hcell ?_ (fun h₁ hns hk₁ => ?_) hco hgen hk)
    · intro x hx
      obtain ⟨k, hk, e⟩ := List.mem_map.mp (List.of_mem_zip hx).1
      rw [← e]; exact hloc k hk
    · have O' : Ok W n ⟨cx.A.deeper (envOf qual scope s.heap.objs.size f cdv), hideAll s.heap ads, s.heap.objs.size, envOf qual scope s.heap.objs.size f cdv, [], []⟩ := O.push S rfl rfl hk rfl rfl rfl (Nat.le_refl _)
      have S' : St W ⟨cx.A.deeper (envOf qual scope s.heap.objs.size f cdv), hideAll s.heap ads, s.heap.objs.size, envOf qual scope s.heap.objs.size f cdv, [], []⟩ ads ⟨l, []⟩ σ h₁ := S.enter hps hpn el hv hns hk₁
      have hscr' : PrS la zs ⟨cx.A.deeper (envOf qual scope s.heap.objs.size f cdv), hideAll s.heap ads, s.heap.objs.size, envOf qual scope s.heap.objs.size f cdv, [], []⟩ := by
        obtain ⟨lv, e, hI⟩ := hscr
        exact ⟨lv, hideAll_get _ (F.keep _ _ e) (fun q => by have := (S.new _ q).2.1; cases (e).symm.trans this), hI⟩
      unfold outF at hd'
      split at hd'
      · rename_i u ρ₂ σ₂ eb
        cases hd'
        refine hbody _ O' hscr' rfl ads _ _ _ _ _ eb _ _ _ S' fun ads₂ fl h₂ tk₂ X₂ r₂ S₂ => ?_
        obtain ⟨x, rfl, rx⟩ := r₂
        exact k ads₂ x h₂ tk₂ X₂ rx (S.back rfl S₂ X₂)
      · rename_i ρ₂ σ₂ eb
        cases Option.some.inj hd'
        refine hbody _ O' hscr' rfl ads _ _ _ _ _ eb _ _ _ S' fun ads₂ fl h₂ tk₂ X₂ r₂ S₂ => ?_
        subst r₂
        exact k ads₂ _ h₂ tk₂ X₂ rfl (S.back rfl S₂ X₂)
      · exact nos hd'
  · exact nos hd'
end

noncomputable def D_law_name : Mo Fl := seqM (bnd (ret (.str [97, 98, 99, 100, 101, 102, 103, 104, 105, 106])) fun v => bnd (putL 80 v) fun _ => ret .next) (seqM (bnd (bnd (bnd (bnd (dLoc 80) fun a => bnd (dLoc 17) fun i => fGet a i) fun a => bnd (bnd (dLoc 80) fun a => bnd (dLoc 4) fun i => fGet a i) fun b => fAdd a b) fun a => bnd (bnd (dLoc 80) fun a => bnd (dLoc 79) fun i => fGet a i) fun b => fAdd a b) fun v => ret (.ret v)) (ret .next))
noncomputable def F_law_name := defF [17, 4, 79] D_law_name
noncomputable def D_law_sign : Mo Fl := seqM (bnd (ifM (ifM (bnd (dLoc 76) fun a => bnd (ret (.lin 0 32)) fun b => bnd (fLt a b) tru) (ret true) (bnd (dLoc 76) fun a => bnd (ret (.lin 0 127)) fun b => bnd (fEq a b) tru)) (bnd (bnd (bnd (dLoc 76) fun a => bnd (ret (.lin 0 128)) fun b => fAdd a b) fun v => bnd (ret []) fun vs => ret (v :: vs)) (apF (f1 gChr))) (bnd (bnd (dLoc 76) fun v => bnd (ret []) fun vs => ret (v :: vs)) (apF (f1 gChr)))) fun v => ret (.ret v)) (ret .next)
noncomputable def F_law_sign := defF [76] D_law_sign
noncomputable def D_law_lies : Mo Fl := seqM (ifM (ifM (bnd (bnd (bnd (dLoc 92) fun a => bnd (ret (.lin 0 0)) fun i => fGet a i) fun a => bnd (bnd (dLoc 93) fun a => bnd (ret (.lin 0 0)) fun i => fGet a i) fun b => fMod a b) fun a => bnd (ret (.lin 0 0)) fun b => bnd (fNe a b) tru) (ret true) (bnd (bnd (bnd (dLoc 92) fun a => bnd (ret (.lin 0 2)) fun i => fGet a i) fun a => bnd (bnd (dLoc 93) fun a => bnd (ret (.lin 0 2)) fun i => fGet a i) fun b => fMod a b) fun a => bnd (ret (.lin 0 0)) fun b => bnd (fNe a b) tru)) (seqM (bnd (ret (.bool false)) fun v => ret (.ret v)) (ret .next)) (ret .next)) (seqM (bnd (bnd (bnd (bnd (bnd (dLoc 92) fun a => bnd (ret (.lin 0 1)) fun i => fGet a i) fun a => bnd (bnd (bnd (bnd (dLoc 92) fun a => bnd (ret (.lin 0 0)) fun i => fGet a i) fun a => bnd (bnd (dLoc 93) fun a => bnd (ret (.lin 0 0)) fun i => fGet a i) fun b => fDiv a b) fun a => bnd (bnd (dLoc 93) fun a => bnd (ret (.lin 0 1)) fun i => fGet a i) fun b => fMul a b) fun b => fSub a b) fun a => bnd (bnd (dLoc 93) fun a => bnd (ret (.lin 0 2)) fun i => fGet a i) fun b => fMod a b) fun a => bnd (ret (.lin 0 0)) fun b => fEq a b) fun v => ret (.ret v)) (ret .next))
noncomputable def F_law_lies := defF [92, 93] D_law_lies
noncomputable def D_wsinit : Mo Fl := seqM (bnd (dLoc 11) fun v => bnd (dLoc 10) fun a => bnd (fSetA 100 2 a v) fun _ => ret .next) (seqM (bnd (bnd (bnd (ret (.str [32])) fun v => bnd (bnd (ret (.str [9])) fun v => bnd (ret []) fun vs => ret (v :: vs)) fun vs => ret (v :: vs)) (fNew .tup)) (fSwap 0 1)) (seqM (bnd (bnd (ret []) (fNew .list)) fun v => bnd (putL 3 v) fun _ => ret .next) (seqM (bnd (ret (.lin 0 0)) fun v => bnd (putL 4 v) fun _ => bnd (putL 5 v) fun _ => bnd (putL 6 v) fun _ => ret .next) (seqM (bnd (bnd (bnd (dLoc 10) (fAttr 100 2)) dSrc) (forM (putL 7) (seqM (ifM (bnd (dLoc 7) fun a => bnd (dLoc 0) fun b => bnd (fEq a b) tru) (seqM (bnd (bnd (dLoc 5) fun a => bnd (ret (.lin 0 1)) fun b => fAdd a b) fun v => bnd (putL 5 v) fun _ => ret .next) (seqM (bnd (bnd (dLoc 4) fun a => bnd (ret (.lin 0 1)) fun b => fAdd a b) fun v => bnd (putL 4 v) fun _ => ret .next) (ret .next))) (seqM (ifM (bnd (dLoc 7) fun a => bnd (dLoc 1) fun b => bnd (fEq a b) tru) (seqM (bnd (bnd (dLoc 5) fun a => bnd (ret (.lin 0 1)) fun b => fAdd a b) fun v => bnd (putL 5 v) fun _ => ret .next) (seqM (bnd (bnd (dLoc 6) fun a => bnd (ret (.lin 0 1)) fun b => fAdd a b) fun v => bnd (putL 6 v) fun _ => ret .next) (seqM (ifM (bnd (dLoc 4) fun a => bnd (bnd (bnd (dLoc 3) fun v => bnd (ret []) fun vs => ret (v :: vs)) (apF (f1 gLen))) fun b => bnd (fGe a b) tru) (seqM (bnd (bnd (dLoc 3) fun a => bnd (bnd (bnd (bnd (ret (.lin 0 0)) fun v => bnd (ret []) fun vs => ret (v :: vs)) (fNew .list)) fun a => bnd (bnd (bnd (dLoc 4) fun a => bnd (bnd (bnd (dLoc 3) fun v => bnd (ret []) fun vs => ret (v :: vs)) (apF (f1 gLen))) fun b => fSub a b) fun a => bnd (ret (.lin 0 1)) fun b => fAdd a b) fun b => fMul a b) fun b => fAdd a b) fun v => bnd (putL 3 v) fun _ => ret .next) (ret .next)) (ret .next)) (seqM (bnd (bnd (bnd (dLoc 3) fun a => bnd (dLoc 4) fun i => fGet a i) fun a => bnd (ret (.lin 0 1)) fun b => fAdd a b) fun v => bnd (dLoc 3) fun a => bnd (dLoc 4) fun i => bnd (fSet a i v) fun _ => ret .next) (seqM (bnd (ret (.lin 0 0)) fun v => bnd (putL 4 v) fun _ => ret .next) (ret .next)))))) (seqM (ret .brk) (ret .next))) (ret .next))) (ret .next)) 400)) (seqM (bnd (dLoc 5) fun v => bnd (dLoc 10) fun a => bnd (fSetA 100 5 a v) fun _ => ret .next) (seqM (bnd (dLoc 6) fun v => bnd (dLoc 10) fun a => bnd (fSetA 100 6 a v) fun _ => ret .next) (seqM (bnd (bnd (bnd (bnd (bnd (dLoc 3) fun v => bnd (ret []) fun vs => ret (v :: vs)) (apF (f1 gTuple))) fun v => bnd (bnd (dLoc 4) fun v => bnd (ret []) fun vs => ret (v :: vs)) fun vs => ret (v :: vs)) (fNew .tup)) fun v => bnd (dLoc 10) fun a => bnd (fSetA 100 8 a v) fun _ => ret .next) (seqM (bnd (bnd (bnd (bnd (dLoc 3) fun v => bnd (ret []) fun vs => ret (v :: vs)) (apF (f1 gLen))) fun a => bnd (ret (.lin 0 1)) fun b => fLe a b) fun v => bnd (dLoc 10) fun a => bnd (fSetA 100 9 a v) fun _ => ret .next) (ret .next)))))))))
noncomputable def F_wsinit := defF [10, 11] D_wsinit
noncomputable def D_longest_run_of_spaces : Mo Fl := seqM (bnd (bnd (dLoc 10) (fAttr 100 8)) fun v => bnd (unpM [putL 3, putL 12] v) fun _ => ret .next) (seqM (bnd (bnd (bnd (bnd (bnd (bnd (dLoc 3) fun v => bnd (ret []) fun vs => ret (v :: vs)) (apF (f1 gLen))) fun a => bnd (ret (.lin 0 1)) fun b => fSub a b) fun v => bnd (bnd (dLoc 12) fun v => bnd (ret []) fun vs => ret (v :: vs)) fun vs => ret (v :: vs)) (apF (f2 gMax))) fun v => ret (.ret v)) (ret .next))
noncomputable def F_longest_run_of_spaces := defF [10] D_longest_run_of_spaces
noncomputable def D_indent_level : Mo Fl := seqM (bnd (bnd (dLoc 10) (fAttr 100 8)) fun v => bnd (unpM [putL 3, putL 12] v) fun _ => ret .next) (seqM (bnd (ret (.lin 0 0)) fun v => bnd (putL 14 v) fun _ => ret .next) (seqM (bnd (bnd (bnd (bnd (dLoc 13) fun v => bnd (bnd (bnd (bnd (dLoc 3) fun v => bnd (ret []) fun vs => ret (v :: vs)) (apF (f1 gLen))) fun v => bnd (ret []) fun vs => ret (v :: vs)) fun vs => ret (v :: vs)) (apF (f12 gRange1 gRange2))) dSrc) (forM (putL 15) (seqM (bnd (bnd (dLoc 14) fun a => bnd (bnd (bnd (dLoc 15) fun a => bnd (dLoc 13) fun b => fDiv a b) fun a => bnd (bnd (dLoc 3) fun a => bnd (dLoc 15) fun i => fGet a i) fun b => fMul a b) fun b => fAdd a b) fun v => bnd (putL 14 v) fun _ => ret .next) (ret .next)) 400)) (seqM (bnd (bnd (dLoc 12) fun a => bnd (bnd (dLoc 13) fun a => bnd (bnd (dLoc 14) fun a => bnd (bnd (dLoc 10) (fAttr 100 6)) fun b => fAdd a b) fun b => fMul a b) fun b => fAdd a b) fun v => ret (.ret v)) (ret .next))))
noncomputable def F_indent_level := defF [10, 13] D_indent_level
noncomputable def D_not_equal_witness : Mo Fl := seqM (bnd (bnd (bnd (bnd (bnd (dLoc 10) fun a => fun ρ σ => match chkI 100 a σ with | true => bnd (ret []) (fun vs => apF F_longest_run_of_spaces (a :: vs)) ρ σ | false => none) fun v => bnd (bnd (bnd (dLoc 16) fun a => fun ρ σ => match chkI 100 a σ with | true => bnd (ret []) (fun vs => apF F_longest_run_of_spaces (a :: vs)) ρ σ | false => none) fun v => bnd (ret []) fun vs => ret (v :: vs)) fun vs => ret (v :: vs)) (apF (f2 gMax))) fun a => bnd (ret (.lin 0 1)) fun b => fAdd a b) fun v => bnd (putL 5 v) fun _ => ret .next) (seqM (bnd (bnd (ret []) (fNew .list)) fun v => bnd (putL 17 v) fun _ => ret .next) (seqM (bnd (bnd (bnd (bnd (ret (.lin 0 1)) fun v => bnd (bnd (bnd (dLoc 5) fun a => bnd (ret (.lin 0 1)) fun b => fAdd a b) fun v => bnd (ret []) fun vs => ret (v :: vs)) fun vs => ret (v :: vs)) (apF (f12 gRange1 gRange2))) dSrc) (forM (putL 18) (seqM (ifM (bnd (bnd (dLoc 10) fun a => fun ρ σ => match chkI 100 a σ with | true => bnd (bnd (dLoc 18) fun v => bnd (ret []) fun vs => ret (v :: vs)) (fun vs => apF F_indent_level (a :: vs)) ρ σ | false => none) fun a => bnd (bnd (dLoc 16) fun a => fun ρ σ => match chkI 100 a σ with | true => bnd (bnd (dLoc 18) fun v => bnd (ret []) fun vs => ret (v :: vs)) (fun vs => apF F_indent_level (a :: vs)) ρ σ | false => none) fun b => bnd (fNe a b) tru) (seqM (bnd (bnd (dLoc 17) fun a => fun ρ σ => match chkL a σ with | true => bnd (bnd (bnd (bnd (dLoc 18) fun v => bnd (bnd (bnd (dLoc 10) fun a => fun ρ σ => match chkI 100 a σ with | true => bnd (bnd (dLoc 18) fun v => bnd (ret []) fun vs => ret (v :: vs)) (fun vs => apF F_indent_level (a :: vs)) ρ σ | false => none) fun v => bnd (bnd (bnd (dLoc 16) fun a => fun ρ σ => match chkI 100 a σ with | true => bnd (bnd (dLoc 18) fun v => bnd (ret []) fun vs => ret (v :: vs)) (fun vs => apF F_indent_level (a :: vs)) ρ σ | false => none) fun v => bnd (ret []) fun vs => ret (v :: vs)) fun vs => ret (v :: vs)) fun vs => ret (v :: vs)) (fNew .tup)) fun v => bnd (ret []) fun vs => ret (v :: vs)) (fun vs => apF appF (a :: vs)) ρ σ | false => none) fun _ => ret .next) (ret .next)) (ret .next)) (ret .next)) 400)) (seqM (bnd (dLoc 17) fun v => ret (.ret v)) (ret .next))))
noncomputable def F_not_equal_witness := defF [10, 16] D_not_equal_witness
noncomputable def F_Whitespace := clsF 100 F_wsinit
noncomputable def D_law_pieces : Mo Fl := seqM (bnd (bnd (ret (.str [32])) fun a => bnd (dLoc 61) fun b => fMul a b) fun v => bnd (putL 62 v) fun _ => ret .next) (seqM (bnd (bnd (bnd (bnd (bnd (bnd (bnd (bnd (ret (.str [32])) fun a => bnd (bnd (dLoc 3) fun a => bnd (ret (.lin 0 1)) fun b => fSub a b) fun b => fMul a b) fun a => bnd (ret (.str [9])) fun b => fAdd a b) fun a => bnd (dLoc 60) fun b => fMul a b) fun a => bnd (dLoc 62) fun b => fAdd a b) fun a => bnd (ret (.str [120, 32])) fun b => fAdd a b) fun v => bnd (ret []) fun vs => ret (v :: vs)) (apF F_Whitespace)) fun v => bnd (putL 63 v) fun _ => ret .next) (seqM (bnd (bnd (bnd (bnd (bnd (bnd (bnd (bnd (ret (.str [32])) fun a => bnd (dLoc 3) fun b => fMul a b) fun a => bnd (ret (.str [9])) fun b => fAdd a b) fun a => bnd (dLoc 60) fun b => fMul a b) fun a => bnd (dLoc 62) fun b => fAdd a b) fun a => bnd (ret (.str [121, 9])) fun b => fAdd a b) fun v => bnd (ret []) fun vs => ret (v :: vs)) (apF F_Whitespace)) fun v => bnd (putL 64 v) fun _ => ret .next) (seqM (bnd (bnd (bnd (bnd (bnd (ret (.str [9])) fun a => bnd (bnd (bnd (dLoc 60) fun a => bnd (bnd (dLoc 3) fun a => bnd (ret (.lin 0 1)) fun b => fAdd a b) fun b => fMul a b) fun a => bnd (ret (.lin 0 1)) fun b => fAdd a b) fun b => fMul a b) fun a => bnd (dLoc 62) fun b => fAdd a b) fun v => bnd (ret []) fun vs => ret (v :: vs)) (apF F_Whitespace)) fun v => bnd (putL 65 v) fun _ => ret .next) (seqM (bnd (bnd (bnd (bnd (bnd (ret (.lin 0 1)) fun v => bnd (bnd (bnd (bnd (bnd (dLoc 3) fun v => bnd (bnd (dLoc 61) fun v => bnd (ret []) fun vs => ret (v :: vs)) fun vs => ret (v :: vs)) (apF (f2 gMax))) fun a => bnd (ret (.lin 0 2)) fun b => fAdd a b) fun v => bnd (ret []) fun vs => ret (v :: vs)) fun vs => ret (v :: vs)) (apF (f12 gRange1 gRange2))) fun v => bnd (ret []) fun vs => ret (v :: vs)) (apF (f1 gList))) fun v => bnd (putL 66 v) fun _ => ret .next) (seqM (ifM (bnd (dComp [] [] (bnd (bnd (bnd (bnd (bnd (dLoc 65) fun v => bnd (bnd (dLoc 64) fun v => bnd (ret []) fun vs => ret (v :: vs)) fun vs => ret (v :: vs)) (fNew .tup)) fun v => bnd (bnd (bnd (bnd (dLoc 64) fun v => bnd (bnd (dLoc 65) fun v => bnd (ret []) fun vs => ret (v :: vs)) fun vs => ret (v :: vs)) (fNew .tup)) fun v => bnd (ret []) fun vs => ret (v :: vs)) fun vs => ret (v :: vs)) (fNew .tup)) dSrc) (lp1 (unpM [putL 74, putL 16]) (ret true) (dComp [] [] (bnd (bnd (dLoc 74) fun a => fun ρ σ => match chkI 100 a σ with | true => bnd (bnd (dLoc 16) fun v => bnd (ret []) fun vs => ret (v :: vs)) (fun vs => apF F_not_equal_witness (a :: vs)) ρ σ | false => none) dSrc) (lp1 (putL 75) (ret true) (bnd (dLoc 75) fun a => bnd (ret (.lin 0 0)) fun i => fGet a i) 400)) 400)) fun a => bnd (bnd (bnd (dLoc 66) fun v => bnd (bnd (dLoc 66) fun v => bnd (ret []) fun vs => ret (v :: vs)) fun vs => ret (v :: vs)) (fNew .list)) fun b => bnd (fNe a b) tru) (seqM (bnd (bnd (ret []) (fNew .list)) fun v => ret (.ret v)) (ret .next)) (ret .next)) (seqM (bnd (bnd (dLoc 63) fun a => fun ρ σ => match chkI 100 a σ with | true => bnd (bnd (dLoc 64) fun v => bnd (ret []) fun vs => ret (v :: vs)) (fun vs => apF F_not_equal_witness (a :: vs)) ρ σ | false => none) fun v => bnd (putL 67 v) fun _ => ret .next) (seqM (ifM (bnd (bnd (dLoc 64) fun a => fun ρ σ => match chkI 100 a σ with | true => bnd (bnd (dLoc 63) fun v => bnd (ret []) fun vs => ret (v :: vs)) (fun vs => apF F_not_equal_witness (a :: vs)) ρ σ | false => none) fun a => bnd (dComp [] [] (bnd (dLoc 67) dSrc) (lp1 (unpM [putL 68, putL 69, putL 70]) (ret true) (bnd (bnd (dLoc 68) fun v => bnd (bnd (dLoc 70) fun v => bnd (bnd (dLoc 69) fun v => bnd (ret []) fun vs => ret (v :: vs)) fun vs => ret (v :: vs)) fun vs => ret (v :: vs)) (fNew .tup)) 400)) fun b => bnd (fNe a b) tru) (seqM (bnd (bnd (ret []) (fNew .list)) fun v => ret (.ret v)) (ret .next)) (ret .next)) (seqM (bnd (bnd (ret []) (fNew .list)) fun v => bnd (putL 71 v) fun _ => ret .next) (seqM (bnd (bnd (dLoc 67) dSrc) (forM (unpM [putL 68, putL 69, putL 70]) (seqM (bnd (bnd (bnd (bnd (dLoc 69) fun a => bnd (dLoc 61) fun b => fSub a b) fun v => bnd (bnd (bnd (dLoc 60) fun a => bnd (dLoc 68) fun b => fMul a b) fun v => bnd (ret []) fun vs => ret (v :: vs)) fun vs => ret (v :: vs)) (apF F_int_divmod)) fun v => bnd (unpM [putL 72, putL 73] v) fun _ => ret .next) (seqM (ifM (ifM (bnd (dLoc 73) fun a => bnd (ret (.lin 0 0)) fun b => bnd (fNe a b) tru) (ret true) (bnd (bnd (dLoc 70) fun a => bnd (dLoc 69) fun b => fSub a b) fun a => bnd (bnd (dLoc 60) fun a => bnd (dLoc 68) fun b => fMul a b) fun b => bnd (fNe a b) tru)) (seqM (bnd (bnd (ret []) (fNew .list)) fun v => ret (.ret v)) (ret .next)) (ret .next)) (seqM (bnd (bnd (dLoc 71) fun a => fun ρ σ => match chkL a σ with | true => bnd (bnd (bnd (bnd (dLoc 72) fun v => bnd (bnd (dLoc 68) fun v => bnd (ret []) fun vs => ret (v :: vs)) fun vs => ret (v :: vs)) (fNew .tup)) fun v => bnd (ret []) fun vs => ret (v :: vs)) (fun vs => apF appF (a :: vs)) ρ σ | false => none) fun _ => ret .next) (ret .next)))) 400)) (seqM (bnd (dLoc 71) fun v => ret (.ret v)) (ret .next)))))))))))
noncomputable def F_law_pieces := defF [3, 60, 61] D_law_pieces
noncomputable def D_hdinit : Mo Fl := seqM (bnd (ifM (bnd (dLoc 48) fun a => bnd (ret .none) fun b => bnd (fIsNot a b) tru) (dLoc 48) (bnd (ret []) (fNew .list))) fun v => bnd (putL 48 v) fun _ => ret .next) (seqM (ifM (bnd (bnd (bnd (dLoc 48) fun v => bnd (ret []) fun vs => ret (v :: vs)) (apF (f1 gType))) fun a => bnd (ret (.ty 2)) fun b => bnd (fIsNot a b) tru) (bad) (ret .next)) (seqM (bnd (dLoc 48) fun v => bnd (dLoc 10) fun a => bnd (fSetA 297 49 a v) fun _ => ret .next) (seqM (ifM (bnd (ret (.bool true)) fTru) (seqM (bnd (bnd (dLoc 48) dSrc) (forM (unpM [putL 50, putL 51]) (bad) 400)) (ret .next)) (ret .next)) (ret .next))))
noncomputable def F_hdinit := defF [10, 48] D_hdinit
noncomputable def D_convert_string_type : Mo Fl := seqM (ifM (bnd (bnd (bnd (dLoc 46) fun v => bnd (ret []) fun vs => ret (v :: vs)) (apF (f1 gType))) fun a => bnd (ret (.ty 0)) fun b => bnd (fIs a b) tru) (seqM (bnd (ifM (bnd (dLoc 52) fTru) (ret (.wr (.ref 163))) (ret (.wr (.ref 168)))) fun v => bnd (putL 53 v) fun _ => ret .next) (seqM (ifM (bnd (bnd (dLoc 53) fun a => fun ρ σ => match chkP 163 168 a σ with | true => bnd (bnd (dLoc 46) fun v => bnd (ret []) fun vs => ret (v :: vs)) (fun vs => apF (f2 (gSearch 163 168)) (a :: vs)) ρ σ | false => none) fTru) (bad) (ret .next)) (seqM (bnd (dLoc 46) fun v => ret (.ret v)) (ret .next)))) (ret .next)) (bad)
noncomputable def F_convert_string_type := defF [10, 46, 52] D_convert_string_type
noncomputable def D_items : Mo Fl := seqM (bnd (bnd (bnd (dLoc 10) (fAttr 297 49)) fun a => fAll a) fun v => ret (.ret v)) (ret .next)
noncomputable def F_items := defF [10] D_items
noncomputable def D_add_header : Mo Fl := seqM (bnd (bnd (ret []) (fNew .list)) fun v => bnd (putL 55 v) fun _ => ret .next) (seqM (ifM (bnd (dLoc 54) fun a => bnd (ret .none) fun b => bnd (fIsNot a b) tru) (seqM (bnd (bnd (dLoc 10) fun a => fun ρ σ => match chkI 297 a σ with | true => bnd (dLoc 54) (fun b => bnd (ret (.bool false)) fun c => apF F_convert_string_type [a, b, c]) ρ σ | false => none) fun v => bnd (putL 54 v) fun _ => ret .next) (seqM (bnd (bnd (dLoc 55) fun a => fun ρ σ => match chkL a σ with | true => bnd (bnd (dLoc 54) fun v => bnd (ret []) fun vs => ret (v :: vs)) (fun vs => apF appF (a :: vs)) ρ σ | false => none) fun _ => ret .next) (ret .next))) (ret .next)) (seqM (bnd (dLoc 56) fItems0) (seqM (bnd (bnd (bnd (dLoc 10) (fAttr 297 49)) fun a => fun ρ σ => match chkL a σ with | true => bnd (bnd (bnd (bnd (bnd (dLoc 10) fun a => fun ρ σ => match chkI 297 a σ with | true => bnd (dLoc 57) (fun b => bnd (ret (.bool true)) fun c => apF F_convert_string_type [a, b, c]) ρ σ | false => none) fun v => bnd (bnd (bnd (ret (.str [59, 32])) fun a => fun ρ σ => match chkS a σ with | true => bnd (bnd (dLoc 55) fun v => bnd (ret []) fun vs => ret (v :: vs)) (fun vs => apF (f2 gJoin) (a :: vs)) ρ σ | false => none) fun v => bnd (ret []) fun vs => ret (v :: vs)) fun vs => ret (v :: vs)) (fNew .tup)) fun v => bnd (ret []) fun vs => ret (v :: vs)) (fun vs => apF appF (a :: vs)) ρ σ | false => none) fun _ => ret .next) (ret .next))))
noncomputable def F_add_header := kwF [(10, false), (57, false), (54, false), (56, false)] D_add_header
noncomputable def D_get_all : Mo Fl := seqM (bnd (bnd (dLoc 10) fun a => fun ρ σ => match chkI 297 a σ with | true => bnd (bnd (dCel 52) fun a => fun ρ σ => match chkS a σ with | true => bnd (ret []) (fun vs => apF (f1 (gCase loF)) (a :: vs)) ρ σ | false => none) (fun b => bnd (ret (.bool true)) fun c => apF F_convert_string_type [a, b, c]) ρ σ | false => none) fun v => bnd (putC 52 v) fun _ => ret .next) (seqM (bnd (dComp [52] [] (bnd (bnd (dLoc 10) (fAttr 297 49)) dSrc) (lp1 (putL 101) (bnd (bnd (bnd (dLoc 101) fun a => bnd (ret (.lin 0 0)) fun i => fGet a i) fun a => fun ρ σ => match chkS a σ with | true => bnd (ret []) (fun vs => apF (f1 (gCase loF)) (a :: vs)) ρ σ | false => none) fun a => bnd (dCel 52) fun b => bnd (fEq a b) tru) (bnd (dLoc 101) fun a => bnd (ret (.lin 0 1)) fun i => fGet a i) 400)) fun v => ret (.ret v)) (ret .next))
noncomputable def F_get_all := cellF [(10, false), (52, true)] [52] [] D_get_all
noncomputable def F_Headers := clsF 297 F_hdinit
noncomputable def D_law_first : Mo Fl := seqM (bnd (bnd (bnd (bnd (ret []) (fNew .list)) fun v => bnd (ret []) fun vs => ret (v :: vs)) (apF F_Headers)) fun v => bnd (putL 81 v) fun _ => ret .next) (seqM (bnd (bnd (dLoc 71) dSrc) (forM (unpM [putL 17, putL 79]) (seqM (bnd (bnd (bnd (bnd (dLoc 79) fun v => bnd (ret []) fun vs => ret (v :: vs)) (apF (f12 gRange1 gRange2))) dSrc) (forM (putL 4) (seqM (bnd (bnd (bnd (bnd (bnd (dLoc 17) fun v => bnd (ret []) fun vs => ret (v :: vs)) (apF F_law_octets)) fun a => bnd (bnd (bnd (bnd (dLoc 4) fun a => bnd (bnd (dLoc 35) fun a => bnd (dLoc 79) fun b => fMul a b) fun b => fAdd a b) fun v => bnd (ret []) fun vs => ret (v :: vs)) (apF F_law_octets)) fun b => fAdd a b) fun a => bnd (bnd (bnd (dLoc 79) fun v => bnd (ret []) fun vs => ret (v :: vs)) (apF F_law_octets)) fun b => fAdd a b) fun v => bnd (putL 82 v) fun _ => ret .next) (seqM (bnd (bnd (dLoc 81) fun a => fun ρ σ => match chkI 297 a σ with | true => bnd (bnd (bnd (ret (.str [97, 98, 99, 100, 101, 102, 103])) fun a => bnd (bnd (bnd (bnd (dLoc 81) fun a => fun ρ σ => match chkI 297 a σ with | true => bnd (ret []) (fun vs => apF F_items (a :: vs)) ρ σ | false => none) fun v => bnd (ret []) fun vs => ret (v :: vs)) (apF (f1 gLen))) fun i => fGet a i) fun v => bnd (bnd (dLoc 82) fun v => bnd (ret []) fun vs => ret (v :: vs)) fun vs => ret (v :: vs)) (fun vs => apF F_add_header (a :: vs)) ρ σ | false => none) fun _ => ret .next) (ret .next))) 400)) (ret .next)) 400)) (seqM (bnd (dLoc 81) fun v => ret (.ret v)) (ret .next)))
noncomputable def F_law_first := defF [71, 35] D_law_first
noncomputable def D_law_second : Mo Fl := seqM (bnd (bnd (bnd (bnd (ret []) (fNew .list)) fun v => bnd (ret []) fun vs => ret (v :: vs)) (apF F_Headers)) fun v => bnd (putL 81 v) fun _ => ret .next) (seqM (bnd (bnd (bnd (dLoc 84) fun a => fun ρ σ => match chkI 297 a σ with | true => bnd (ret []) (fun vs => apF F_items (a :: vs)) ρ σ | false => none) dSrc) (forM (unpM [putL 52, putL 82]) (seqM (bnd (bnd (bnd (bnd (dLoc 82) fOrds) fun v => bnd (ret []) fun vs => ret (v :: vs)) (apF (f1 gIterP))) fun v => bnd (putC 83 v) fun _ => ret .next) (seqM (bnd (dComp [83] [] (bnd (bnd (bnd (ret (.lin 0 3)) fun v => bnd (ret []) fun vs => ret (v :: vs)) (apF (f12 gRange1 gRange2))) dSrc) (lp1 (putL 50) (ret true) (bnd (bnd (dCel 83) fun v => bnd (ret []) fun vs => ret (v :: vs)) (apF F_parse_varint)) 400)) fun v => bnd (unpM [putL 17, putL 4, putL 79] v) fun _ => ret .next) (seqM (ifM (ifM (bnd (bnd (bnd (bnd (dCel 83) fun v => bnd (ret []) fun vs => ret (v :: vs)) (apF F_law_ends)) fTru) fun b => ret (!b)) (ret true) (bnd (bnd (dLoc 4) fun a => bnd (dLoc 79) fun b => fDiv a b) fun a => bnd (dLoc 35) fun b => bnd (fNe a b) tru)) (seqM (bnd (ret .none) fun v => ret (.ret v)) (ret .next)) (ret .next)) (seqM (bnd (bnd (dLoc 71) dSrc) (forM (unpM [putL 85, putL 86]) (seqM (bnd (ifM (bnd (dLoc 52) fun a => bnd (ret (.str [98, 100, 102])) fun b => bnd (fInB a b) tru) (bnd (bnd (ret (.lin 0 2)) fun a => bnd (dLoc 85) fun b => fMul a b) fun a => bnd (dLoc 35) fun b => fMul a b) (ret (.lin 0 0))) fun v => bnd (putL 88 v) fun _ => ret .next) (seqM (bnd (bnd (bnd (bnd (dLoc 88) fun v => bnd (bnd (bnd (dLoc 88) fun a => bnd (dLoc 86) fun b => fAdd a b) fun v => bnd (ret []) fun vs => ret (v :: vs)) fun vs => ret (v :: vs)) (apF (f12 gRange1 gRange2))) dSrc) (forM (putL 87) (seqM (bnd (bnd (bnd (dLoc 87) fun a => bnd (dLoc 79) fun b => fMul a b) fun a => bnd (bnd (dLoc 85) fun a => bnd (dLoc 4) fun b => fMul a b) fun b => fSub a b) fun v => bnd (putL 89 v) fun _ => ret .next) (seqM (bnd (bnd (bnd (dLoc 89) fun v => bnd (bnd (bnd (bnd (dLoc 86) fNeg) fun a => bnd (dLoc 79) fun b => fMul a b) fun v => bnd (ret []) fun vs => ret (v :: vs)) fun vs => ret (v :: vs)) (apF F_int_divmod)) fun v => bnd (unpM [putL 72, putL 73] v) fun _ => ret .next) (seqM (ifM (bnd (bnd (bnd (bnd (bnd (bnd (dLoc 72) fun v => bnd (ret []) fun vs => ret (v :: vs)) (apF (f1 gType))) fun a => bnd (ret (.ty 1)) fun b => fIs a b) fun v => bnd (bnd (bnd (bnd (bnd (dLoc 73) fun v => bnd (ret []) fun vs => ret (v :: vs)) (apF (f1 gType))) fun a => bnd (ret (.ty 1)) fun b => fIs a b) fun v => bnd (bnd (bnd (bnd (dLoc 73) fun a => bnd (bnd (bnd (dLoc 72) fun a => bnd (dLoc 86) fun b => fMul a b) fun a => bnd (dLoc 79) fun b => fMul a b) fun b => fSub a b) fun a => bnd (dLoc 89) fun b => fEq a b) fun v => bnd (ret []) fun vs => ret (v :: vs)) fun vs => ret (v :: vs)) fun vs => ret (v :: vs)) (fNew .list)) fun a => bnd (bnd (bnd (ret (.bool true)) fun v => bnd (bnd (ret (.bool true)) fun v => bnd (bnd (ret (.bool true)) fun v => bnd (ret []) fun vs => ret (v :: vs)) fun vs => ret (v :: vs)) fun vs => ret (v :: vs)) (fNew .list)) fun b => bnd (fNe a b) tru) (seqM (bnd (ret .none) fun v => ret (.ret v)) (ret .next)) (ret .next)) (seqM (bnd (bnd (bnd (bnd (dLoc 85) fun a => bnd (dLoc 17) fun b => fMul a b) fun v => bnd (bnd (bnd (dLoc 73) fNeg) fun v => bnd (bnd (bnd (dLoc 86) fun a => bnd (dLoc 79) fun b => fMul a b) fun v => bnd (ret []) fun vs => ret (v :: vs)) fun vs => ret (v :: vs)) fun vs => ret (v :: vs)) (apF F_law_name)) fun v => bnd (putL 90 v) fun _ => ret .next) (seqM (ifM (bnd (bnd (dLoc 81) fun a => fun ρ σ => match chkI 297 a σ with | true => bnd (bnd (ifM (bnd (dLoc 52) fun a => bnd (ret (.str [98, 100, 102])) fun b => bnd (fInB a b) tru) (bnd (dLoc 90) fun a => fun ρ σ => match chkS a σ with | true => bnd (ret []) (fun vs => apF (f1 (gCase upF)) (a :: vs)) ρ σ | false => none) (dLoc 90)) fun v => bnd (bnd (dLoc 52) fun v => bnd (ret []) fun vs => ret (v :: vs)) fun vs => ret (v :: vs)) (fun vs => apF F_add_header (a :: vs)) ρ σ | false => none) fun a => bnd (ret .none) fun b => bnd (fIsNot a b) tru) (seqM (bnd (ret .none) fun v => ret (.ret v)) (ret .next)) (ret .next)) (ret .next)))))) 400)) (ret .next))) 400)) (ret .next))))) 400)) (seqM (bnd (dLoc 81) fun v => ret (.ret v)) (ret .next)))
noncomputable def F_law_second := cellF [(84, false), (71, false), (35, false)] [83] [] D_law_second
noncomputable def D_in1 (G : List Nat → List AV → Sto → Option (AV × Sto)) : Mo Fl := seqM (ifM (bnd (bnd (dLoc 32) fun a => bnd (ret (.lin 0 1)) fun b => fAdd a b) fun a => bnd (dLoc 33) fun b => bnd (fEq a b) tru) (seqM (bnd (dLoc 31) fun v => bnd (dCel 30) fun a => bnd (dLoc 32) fun i => bnd (fSet a i v) fun _ => ret .next) (seqM (ret (.ret .none)) (ret .next))) (ret .next)) (seqM (bnd (bnd (bnd (dLoc 32) fun a => bnd (dLoc 33) fun b => fAdd a b) fun a => bnd (ret (.lin 0 1)) fun b => fShr a b) fun v => bnd (putL 34 v) fun _ => ret .next) (seqM (bnd (bnd (bnd (dLoc 34) fun a => bnd (dLoc 32) fun b => fSub a b) fun a => bnd (dCel 5) fun b => fMul a b) fun v => bnd (putL 35 v) fun _ => ret .next) (seqM (bnd (bnd (dLoc 31) fun a => bnd (dLoc 35) fun b => fShr a b) fun v => bnd (putL 36 v) fun _ => ret .next) (seqM (bnd (bnd (dLoc 31) fun a => bnd (bnd (dLoc 36) fun a => bnd (dLoc 35) fun b => fShl a b) fun b => fXor a b) fun v => bnd (putL 37 v) fun _ => ret .next) (seqM (bnd (bnd (dCel 38) fun a => bnd (bnd (dLoc 37) fun v => bnd (bnd (dLoc 32) fun v => bnd (bnd (dLoc 34) fun v => bnd (ret []) fun vs => ret (v :: vs)) fun vs => ret (v :: vs)) fun vs => ret (v :: vs)) (apV 2 G a)) fun _ => ret .next) (seqM (bnd (bnd (dCel 38) fun a => bnd (bnd (dLoc 36) fun v => bnd (bnd (dLoc 34) fun v => bnd (bnd (dLoc 33) fun v => bnd (ret []) fun vs => ret (v :: vs)) fun vs => ret (v :: vs)) fun vs => ret (v :: vs)) (apV 2 G a)) fun _ => ret .next) (ret .next)))))))
noncomputable def G_in1 : Nat → List Nat → List AV → Sto → Option (AV × Sto)
  | 0 => fun _ _ _ => none
  | m + 1 => cloF 1 [(31, false), (32, false), (33, false)] [] [30, 38, 5] (D_in1 (G_in1 m))
noncomputable def D_in2 (G : List Nat → List AV → Sto → Option (AV × Sto)) : Mo Fl := seqM (ifM (bnd (bnd (dLoc 32) fun a => bnd (ret (.lin 0 1)) fun b => fAdd a b) fun a => bnd (dLoc 33) fun b => bnd (fEq a b) tru) (seqM (bnd (bnd (dCel 39) fun a => bnd (dLoc 32) fun i => fGet a i) fun v => ret (.ret v)) (ret .next)) (ret .next)) (seqM (bnd (bnd (bnd (dLoc 32) fun a => bnd (dLoc 33) fun b => fAdd a b) fun a => bnd (ret (.lin 0 1)) fun b => fShr a b) fun v => bnd (putL 34 v) fun _ => ret .next) (seqM (bnd (bnd (bnd (dLoc 34) fun a => bnd (dLoc 32) fun b => fSub a b) fun a => bnd (dCel 5) fun b => fMul a b) fun v => bnd (putL 35 v) fun _ => ret .next) (seqM (bnd (bnd (bnd (bnd (dCel 38) fun a => bnd (bnd (dLoc 34) fun v => bnd (bnd (dLoc 33) fun v => bnd (ret []) fun vs => ret (v :: vs)) fun vs => ret (v :: vs)) (apV 5 G a)) fun a => bnd (dLoc 35) fun b => fShl a b) fun a => bnd (bnd (dCel 38) fun a => bnd (bnd (dLoc 32) fun v => bnd (bnd (dLoc 34) fun v => bnd (ret []) fun vs => ret (v :: vs)) fun vs => ret (v :: vs)) (apV 5 G a)) fun b => fAdd a b) fun v => ret (.ret v)) (ret .next))))
noncomputable def G_in2 : Nat → List Nat → List AV → Sto → Option (AV × Sto)
  | 0 => fun _ _ _ => none
  | m + 1 => cloF 4 [(32, false), (33, false)] [] [39, 38, 5] (D_in2 (G_in2 m))
noncomputable def D_int2digits : Mo Fl := seqM (bnd (bnd (bnd (bnd (ret (.lin 0 0)) fun v => bnd (ret []) fun vs => ret (v :: vs)) (fNew .list)) fun a => bnd (bnd (bnd (bnd (bnd (dLoc 17) fun a => fun ρ σ => match chkZ a σ with | true => bnd (ret []) (fun vs => apF (f1 gBits) (a :: vs)) ρ σ | false => none) fun a => bnd (dCel 5) fun b => fAdd a b) fun a => bnd (ret (.lin 0 1)) fun b => fSub a b) fun a => bnd (dCel 5) fun b => fDiv a b) fun b => fMul a b) fun v => bnd (putC 30 v) fun _ => ret .next) (seqM (dDef 0 0 1 2 [30, 38, 5] 38) (seqM (ifM (bnd (dLoc 17) fTru) (seqM (bnd (bnd (dCel 38) fun a => bnd (bnd (dLoc 17) fun v => bnd (bnd (ret (.lin 0 0)) fun v => bnd (bnd (bnd (bnd (dCel 30) fun v => bnd (ret []) fun vs => ret (v :: vs)) (apF (f1 gLen))) fun v => bnd (ret []) fun vs => ret (v :: vs)) fun vs => ret (v :: vs)) fun vs => ret (v :: vs)) (apV 2 (G_in1 12) a)) fun _ => ret .next) (ret .next)) (ret .next)) (seqM (bnd (dCel 30) fun v => ret (.ret v)) (ret .next))))
noncomputable def F_int2digits := cellF [(17, false), (5, true)] [5, 30, 38] [] D_int2digits
noncomputable def D_digits2int : Mo Fl := seqM (dDef 1 3 4 5 [39, 38, 5] 38) (seqM (bnd (ifM (bnd (dCel 39) fTru) (bnd (dCel 38) fun a => bnd (bnd (ret (.lin 0 0)) fun v => bnd (bnd (bnd (bnd (dCel 39) fun v => bnd (ret []) fun vs => ret (v :: vs)) (apF (f1 gLen))) fun v => bnd (ret []) fun vs => ret (v :: vs)) fun vs => ret (v :: vs)) (apV 5 (G_in2 12) a)) (ret (.lin 0 0))) fun v => ret (.ret v)) (ret .next))
noncomputable def F_digits2int := cellF [(39, true), (5, true)] [39, 5, 38] [] D_digits2int
noncomputable def D_div2n1n : Mo Fl := seqM (ifM (bnd (bnd (bnd (dLoc 17) fun a => fun ρ σ => match chkZ a σ with | true => bnd (ret []) (fun vs => apF (f1 gBits) (a :: vs)) ρ σ | false => none) fun a => bnd (dLoc 5) fun b => fSub a b) fun a => bnd (ret (.lin 0 4000)) fun b => bnd (fLe a b) tru) (seqM (bnd (bnd (bnd (dLoc 17) fun v => bnd (bnd (dLoc 4) fun v => bnd (ret []) fun vs => ret (v :: vs)) fun vs => ret (v :: vs)) (apF (f2 gDivmod))) fun v => ret (.ret v)) (ret .next)) (ret .next)) (bad)
noncomputable def F_div2n1n := defF [17, 4, 5] D_div2n1n
noncomputable def D_divmod_pos : Mo Fl := seqM (bnd (bnd (dLoc 4) fun a => fun ρ σ => match chkZ a σ with | true => bnd (ret []) (fun vs => apF (f1 gBits) (a :: vs)) ρ σ | false => none) fun v => bnd (putL 5 v) fun _ => ret .next) (seqM (bnd (bnd (bnd (dLoc 17) fun v => bnd (bnd (dLoc 5) fun v => bnd (ret []) fun vs => ret (v :: vs)) fun vs => ret (v :: vs)) (apF F_int2digits)) fun v => bnd (putL 30 v) fun _ => ret .next) (seqM (bnd (ret (.lin 0 0)) fun v => bnd (putL 25 v) fun _ => ret .next) (seqM (bnd (bnd (ret []) (fNew .list)) fun v => bnd (putL 40 v) fun _ => ret .next) (seqM (bnd (bnd (bnd (dLoc 30) fun v => bnd (ret []) fun vs => ret (v :: vs)) dRev) (forM (putL 41) (seqM (bnd (bnd (bnd (bnd (bnd (dLoc 25) fun a => bnd (dLoc 5) fun b => fShl a b) fun a => bnd (dLoc 41) fun b => fAdd a b) fun v => bnd (bnd (dLoc 4) fun v => bnd (bnd (dLoc 5) fun v => bnd (ret []) fun vs => ret (v :: vs)) fun vs => ret (v :: vs)) fun vs => ret (v :: vs)) (apF F_div2n1n)) fun v => bnd (unpM [putL 42, putL 25] v) fun _ => ret .next) (seqM (bnd (bnd (dLoc 40) fun a => fun ρ σ => match chkL a σ with | true => bnd (bnd (dLoc 42) fun v => bnd (ret []) fun vs => ret (v :: vs)) (fun vs => apF appF (a :: vs)) ρ σ | false => none) fun _ => ret .next) (ret .next))) 400)) (seqM (bnd (bnd (dLoc 40) fun a => fun ρ σ => match chkL a σ with | true => bnd (ret []) (fun vs => apF (f1 gRev) (a :: vs)) ρ σ | false => none) fun _ => ret .next) (seqM (bnd (bnd (bnd (dLoc 40) fun v => bnd (bnd (dLoc 5) fun v => bnd (ret []) fun vs => ret (v :: vs)) fun vs => ret (v :: vs)) (apF F_digits2int)) fun v => bnd (putL 29 v) fun _ => ret .next) (seqM (bnd (bnd (bnd (dLoc 29) fun v => bnd (bnd (dLoc 25) fun v => bnd (ret []) fun vs => ret (v :: vs)) fun vs => ret (v :: vs)) (fNew .tup)) fun v => ret (.ret v)) (ret .next))))))))
noncomputable def F_divmod_pos := defF [17, 4] D_divmod_pos
noncomputable def D_idm (F_int_divmod : List AV → Sto → Option (AV × Sto)) : Mo Fl := seqM (ifM (bnd (dLoc 4) fun a => bnd (ret (.lin 0 0)) fun b => bnd (fEq a b) tru) (bad) (seqM (ifM (bnd (dLoc 4) fun a => bnd (ret (.lin 0 0)) fun b => bnd (fLt a b) tru) (seqM (bnd (bnd (bnd (bnd (dLoc 17) fNeg) fun v => bnd (bnd (bnd (dLoc 4) fNeg) fun v => bnd (ret []) fun vs => ret (v :: vs)) fun vs => ret (v :: vs)) (apF F_int_divmod)) fun v => bnd (unpM [putL 29, putL 25] v) fun _ => ret .next) (seqM (bnd (bnd (bnd (dLoc 29) fun v => bnd (bnd (bnd (dLoc 25) fNeg) fun v => bnd (ret []) fun vs => ret (v :: vs)) fun vs => ret (v :: vs)) (fNew .tup)) fun v => ret (.ret v)) (ret .next))) (seqM (ifM (bnd (dLoc 17) fun a => bnd (ret (.lin 0 0)) fun b => bnd (fLt a b) tru) (seqM (bnd (bnd (bnd (bnd (dLoc 17) fInv) fun v => bnd (bnd (dLoc 4) fun v => bnd (ret []) fun vs => ret (v :: vs)) fun vs => ret (v :: vs)) (apF F_int_divmod)) fun v => bnd (unpM [putL 29, putL 25] v) fun _ => ret .next) (seqM (bnd (bnd (bnd (bnd (dLoc 29) fInv) fun v => bnd (bnd (bnd (dLoc 4) fun a => bnd (bnd (dLoc 25) fInv) fun b => fAdd a b) fun v => bnd (ret []) fun vs => ret (v :: vs)) fun vs => ret (v :: vs)) (fNew .tup)) fun v => ret (.ret v)) (ret .next))) (seqM (bnd (bnd (bnd (dLoc 17) fun v => bnd (bnd (dLoc 4) fun v => bnd (ret []) fun vs => ret (v :: vs)) fun vs => ret (v :: vs)) (apF F_divmod_pos)) fun v => ret (.ret v)) (ret .next))) (ret .next))) (ret .next))) (ret .next)
noncomputable def F_idm (F_int_divmod : List AV → Sto → Option (AV × Sto)) := defF [17, 4] (D_idm F_int_divmod)
noncomputable def F_idm3 : List AV → Sto → Option (AV × Sto) := F_idm (F_idm (F_idm fun _ _ => none))
noncomputable def D_law_cells (la : Nat) (zs : List Int) : Mo Fl := seqM (bnd (bnd (bnd (ret (.lin 0 1)) fun v => bnd (bnd (ret (.lin 0 1)) fun v => bnd (bnd (ret (.lin 0 5)) fun v => bnd (bnd (ret (.lin 0 37)) fun v => bnd (ret []) fun vs => ret (v :: vs)) fun vs => ret (v :: vs)) fun vs => ret (v :: vs)) fun vs => ret (v :: vs)) (fNew .list)) fun v => bnd (putL 59 v) fun _ => ret .next) (seqM (bnd (bnd (bnd (bnd (bnd (dLoc 58) (fScrLen la zs)) fun v => bnd (ret []) fun vs => ret (v :: vs)) (apF (f12 gRange1 gRange2))) dSrc) (forM (putL 50) (seqM (bnd (dLoc 59) fun a => bnd (bnd (dLoc 50) fun a => bnd (ret (.lin 0 4)) fun b => fMod a b) fun i => bnd (fGetL a i) fun old => bnd (bnd (dLoc 58) fun a => bnd (dLoc 50) fun i => fScrGet la zs a i) fun v => bnd (fIAdd old v) fun new => bnd (fSet a i new) fun _ => ret .next) (ret .next)) 400)) (seqM (bnd (dLoc 59) fun v => ret (.ret v)) (ret .next)))
noncomputable def Fw_law_cells (la : Nat) (zs : List Int) := defF [58] (D_law_cells la zs)
noncomputable def D_law_octets : Mo Fl := seqM (bnd (bnd (bnd (bnd (dLoc 77) fun a => bnd (ret (.lin 0 64)) fun b => fMod a b) fun v => bnd (ret []) fun vs => ret (v :: vs)) (apF F_law_sign)) fun v => bnd (putL 78 v) fun _ => ret .next) (seqM (whileM (bnd (dLoc 77) fun a => bnd (ret (.lin 0 63)) fun b => bnd (fGt a b) tru) (seqM (bnd (dLoc 77) fun a => bnd (ret (.lin 0 64)) fun b => bnd (fDiv a b) fun c => bnd (putL 77 c) fun _ => ret .next) (seqM (bnd (bnd (bnd (bnd (bnd (ret (.lin 0 64)) fun a => bnd (bnd (dLoc 77) fun a => bnd (ret (.lin 0 64)) fun b => fMod a b) fun b => fAdd a b) fun v => bnd (ret []) fun vs => ret (v :: vs)) (apF F_law_sign)) fun a => bnd (dLoc 78) fun b => fAdd a b) fun v => bnd (putL 78 v) fun _ => ret .next) (ret .next))) 400) (seqM (bnd (dLoc 78) fun v => ret (.ret v)) (ret .next)))
noncomputable def Fw_law_octets := defF [77] D_law_octets
noncomputable def D_parse_varint : Mo Fl := seqM (bnd (bnd (bnd (dLoc 43) fun v => bnd (ret []) fun vs => ret (v :: vs)) (apF (f1 gNext))) fun v => bnd (putL 4 v) fun _ => ret .next) (seqM (bnd (bnd (dLoc 4) fun a => bnd (ret (.lin 0 63)) fun b => fAnd a b) fun v => bnd (putL 44 v) fun _ => ret .next) (seqM (whileM (bnd (bnd (dLoc 4) fun a => bnd (ret (.lin 0 64)) fun b => fAnd a b) fTru) (seqM (bnd (dLoc 44) fun a => bnd (ret (.lin 0 6)) fun b => bnd (fShl a b) fun c => bnd (putL 44 c) fun _ => ret .next) (seqM (bnd (bnd (bnd (dLoc 43) fun v => bnd (ret []) fun vs => ret (v :: vs)) (apF (f1 gNext))) fun v => bnd (putL 4 v) fun _ => ret .next) (seqM (bnd (dLoc 44) fun a => bnd (bnd (dLoc 4) fun a => bnd (ret (.lin 0 63)) fun b => fAnd a b) fun b => bnd (fOr a b) fun c => bnd (putL 44 c) fun _ => ret .next) (ret .next)))) 400) (seqM (bnd (dLoc 44) fun v => ret (.ret v)) (ret .next))))
noncomputable def Fw_parse_varint := defF [43] D_parse_varint
noncomputable def D_lawB : Mo Fl := seqM (bnd (bnd (bnd (bnd (bnd (dLoc 64) fun v => bnd (bnd (dLoc 35) fun v => bnd (ret []) fun vs => ret (v :: vs)) fun vs => ret (v :: vs)) (apF F_law_first)) fun v => bnd (bnd (dLoc 95) fun v => bnd (bnd (dLoc 35) fun v => bnd (ret []) fun vs => ret (v :: vs)) fun vs => ret (v :: vs)) fun vs => ret (v :: vs)) (apF F_law_second)) fun v => bnd (putL 96 v) fun _ => ret .next) (seqM (ifM (bnd (dLoc 96) fun a => bnd (ret .none) fun b => bnd (fIs a b) tru) (seqM (bnd (ret (.bool false)) fun v => ret (.ret v)) (ret .next)) (ret .next)) (seqM (bnd (dComp [] [] (bnd (dLoc 64) dSrc) (lp2 (unpM [putL 17, putL 79]) (bnd (bnd (bnd (dLoc 79) fun v => bnd (ret []) fun vs => ret (v :: vs)) (apF (f12 gRange1 gRange2))) dSrc) (putL 4) (bnd (bnd (dLoc 17) fun v => bnd (bnd (dLoc 4) fun v => bnd (bnd (dLoc 79) fun v => bnd (ret []) fun vs => ret (v :: vs)) fun vs => ret (v :: vs)) fun vs => ret (v :: vs)) (fNew .tup)) 400)) fun v => bnd (putC 97 v) fun _ => ret .next) (seqM (bnd (dComp [38] [] (bnd (dLoc 64) dSrc) (lp1 (unpM [putL 17, putL 79]) (bnd (bnd (dCel 38) fun a => bnd (dLoc 79) fun b => fMod a b) fun a => bnd (ret (.lin 0 0)) fun b => bnd (fEq a b) tru) (dLoc 79) 400)) fun v => bnd (putL 98 v) fun _ => ret .next) (seqM (bnd (ret (.lin 0 0)) fun v => bnd (putL 99 v) fun _ => ret .next) (seqM (bnd (bnd (bnd (bnd (ret (.lin 0 1)) fun v => bnd (bnd (bnd (bnd (dCel 94) fun a => bnd (dCel 38) fun b => fMul a b) fun a => bnd (ret (.lin 0 1)) fun b => fAdd a b) fun v => bnd (ret []) fun vs => ret (v :: vs)) fun vs => ret (v :: vs)) (apF (f12 gRange1 gRange2))) dSrc) (forM (putL 79) (seqM (ifM (bnd (bnd (bnd (dCel 94) fun a => bnd (dCel 38) fun b => fMul a b) fun a => bnd (dLoc 79) fun b => fMod a b) fun a => bnd (ret (.lin 0 0)) fun b => bnd (fEq a b) tru) (seqM (bnd (bnd (bnd (bnd (dLoc 79) fun v => bnd (ret []) fun vs => ret (v :: vs)) (apF (f12 gRange1 gRange2))) dSrc) (forM (putL 4) (seqM (bnd (bnd (bnd (bnd (bnd (dCel 94) fun a => bnd (dCel 38) fun b => fMul a b) fun a => bnd (dLoc 79) fun b => fDiv a b) fun v => bnd (bnd (dLoc 4) fun v => bnd (bnd (dLoc 79) fun v => bnd (ret []) fun vs => ret (v :: vs)) fun vs => ret (v :: vs)) fun vs => ret (v :: vs)) (fNew .tup)) fun v => bnd (putC 92 v) fun _ => ret .next) (seqM (bnd (bnd (bnd (bnd (dCel 92) fun a => bnd (ret (.lin 0 0)) fun i => fGet a i) fun v => bnd (bnd (dLoc 4) fun v => bnd (bnd (dLoc 79) fun v => bnd (ret []) fun vs => ret (v :: vs)) fun vs => ret (v :: vs)) fun vs => ret (v :: vs)) (apF F_law_name)) fun v => bnd (putL 52 v) fun _ => ret .next) (seqM (bnd (bnd (dLoc 96) fun a => fun ρ σ => match chkI 297 a σ with | true => bnd (bnd (ifM (bnd (bnd (dLoc 4) fun a => bnd (ret (.lin 0 2)) fun b => fMod a b) fun a => bnd (ret (.lin 0 1)) fun b => bnd (fEq a b) tru) (bnd (dLoc 52) fun a => fun ρ σ => match chkS a σ with | true => bnd (ret []) (fun vs => apF (f1 (gCase upF)) (a :: vs)) ρ σ | false => none) (dLoc 52)) fun v => bnd (ret []) fun vs => ret (v :: vs)) (fun vs => apF F_get_all (a :: vs)) ρ σ | false => none) fun v => bnd (putC 67 v) fun _ => ret .next) (seqM (bnd (dComp [92, 97, 67] [] (bnd (bnd (bnd (bnd (bnd (dCel 97) fun v => bnd (ret []) fun vs => ret (v :: vs)) (apF (f1 gLen))) fun v => bnd (ret []) fun vs => ret (v :: vs)) (apF (f12 gRange1 gRange2))) dSrc) (lp1 (putL 50) (ifM (bnd (bnd (ret (.str [97, 98, 99, 100, 101, 102, 103])) fun a => bnd (dLoc 50) fun i => fGet a i) fun a => bnd (dCel 67) fun b => bnd (fIn a b) tru) (bnd (bnd (bnd (dCel 92) fun v => bnd (bnd (bnd (dCel 97) fun a => bnd (dLoc 50) fun i => fGet a i) fun v => bnd (ret []) fun vs => ret (v :: vs)) fun vs => ret (v :: vs)) (apF F_law_lies)) fTru) (ret false)) (bnd (ret (.str [97, 98, 99, 100, 101, 102, 103])) fun a => bnd (dLoc 50) fun i => fGet a i) 400)) fun v => bnd (putL 93 v) fun _ => ret .next) (seqM (bnd (bnd (bnd (dComp [92] [68] (bnd (dLoc 98) dSrc) (lp1 (putC 68) (bnd (dComp [68] [] (bnd (dCel 92) dSrc) (lp1 (putL 5) (bnd (bnd (dLoc 5) fun a => bnd (dCel 68) fun b => fMod a b) fun a => bnd (ret (.lin 0 0)) fun b => bnd (fNe a b) tru) (dLoc 5) 400)) fun a => bnd (bnd (ret []) (fNew .list)) fun b => bnd (fEq a b) tru) (dCel 68) 400)) fun v => bnd (ret []) fun vs => ret (v :: vs)) (apF (f1 gSum))) fun v => bnd (putL 100 v) fun _ => ret .next) (seqM (ifM (ifM (bnd (dCel 67) fun a => bnd (dLoc 93) fun b => bnd (fNe a b) tru) (ret true) (bnd (bnd (bnd (dCel 67) fun v => bnd (ret []) fun vs => ret (v :: vs)) (apF (f1 gLen))) fun a => bnd (dLoc 100) fun b => bnd (fNe a b) tru)) (seqM (bnd (ret (.bool false)) fun v => ret (.ret v)) (ret .next)) (ret .next)) (seqM (bnd (dLoc 99) fun a => bnd (dLoc 100) fun b => bnd (fIAdd a b) fun c => bnd (putL 99 c) fun _ => ret .next) (ret .next)))))))) 400)) (ret .next)) (ret .next)) (ret .next)) 400)) (seqM (bnd (bnd (bnd (bnd (bnd (bnd (dLoc 96) fun a => fun ρ σ => match chkI 297 a σ with | true => bnd (ret []) (fun vs => apF F_items (a :: vs)) ρ σ | false => none) fun v => bnd (ret []) fun vs => ret (v :: vs)) (apF (f1 gLen))) fun a => bnd (dLoc 99) fun b => fEq a b) fun a => bnd (fTru a) fun b => match b with | true => bnd (bnd (dLoc 96) fun a => fun ρ σ => match chkI 297 a σ with | true => bnd (bnd (bnd (dLoc 52) fun a => bnd (ret (.lin 0 2)) fun b => fTo a b) fun v => bnd (ret []) fun vs => ret (v :: vs)) (fun vs => apF F_get_all (a :: vs)) ρ σ | false => none) fun a => bnd (bnd (ret []) (fNew .list)) fun b => fEq a b | false => ret a) fun v => ret (.ret v)) (ret .next)))))))
noncomputable def D_lawA : Mo Fl := seqM (bnd (bnd (bnd (dCel 94) fun v => bnd (bnd (dLoc 60) fun v => bnd (bnd (dLoc 61) fun v => bnd (ret []) fun vs => ret (v :: vs)) fun vs => ret (v :: vs)) fun vs => ret (v :: vs)) (apF F_law_pieces)) fun v => bnd (putL 64 v) fun _ => ret .next) (normM [64, 61, 60, 35] (seqM (bnd (bnd (bnd (dCel 38) fun v => bnd (bnd (dLoc 60) fun v => bnd (bnd (dLoc 61) fun v => bnd (ret []) fun vs => ret (v :: vs)) fun vs => ret (v :: vs)) fun vs => ret (v :: vs)) (apF F_law_pieces)) fun v => bnd (putL 95 v) fun _ => ret .next) (normM [64, 95, 35] (seqM (ifM (bnd (dLoc 64) fun a => bnd (dComp [94] [] (bnd (bnd (bnd (ret (.lin 0 1)) fun v => bnd (bnd (bnd (dCel 94) fun a => bnd (ret (.lin 0 1)) fun b => fAdd a b) fun v => bnd (ret []) fun vs => ret (v :: vs)) fun vs => ret (v :: vs)) (apF (f12 gRange1 gRange2))) dSrc) (lp1 (putL 79) (bnd (bnd (dCel 94) fun a => bnd (dLoc 79) fun b => fMod a b) fun a => bnd (ret (.lin 0 0)) fun b => bnd (fEq a b) tru) (bnd (bnd (bnd (dCel 94) fun a => bnd (dLoc 79) fun b => fDiv a b) fun v => bnd (bnd (dLoc 79) fun v => bnd (ret []) fun vs => ret (v :: vs)) fun vs => ret (v :: vs)) (fNew .tup)) 400)) fun b => bnd (fNe a b) tru) (seqM (bnd (ret (.bool false)) fun v => ret (.ret v)) (ret .next)) (ret .next)) (seqM (ifM (bnd (dLoc 95) fun a => bnd (dComp [38] [] (bnd (bnd (bnd (ret (.lin 0 1)) fun v => bnd (bnd (bnd (dCel 38) fun a => bnd (ret (.lin 0 1)) fun b => fAdd a b) fun v => bnd (ret []) fun vs => ret (v :: vs)) fun vs => ret (v :: vs)) (apF (f12 gRange1 gRange2))) dSrc) (lp1 (putL 79) (bnd (bnd (dCel 38) fun a => bnd (dLoc 79) fun b => fMod a b) fun a => bnd (ret (.lin 0 0)) fun b => bnd (fEq a b) tru) (bnd (bnd (bnd (dCel 38) fun a => bnd (dLoc 79) fun b => fDiv a b) fun v => bnd (bnd (dLoc 79) fun v => bnd (ret []) fun vs => ret (v :: vs)) fun vs => ret (v :: vs)) (fNew .tup)) 400)) fun b => bnd (fNe a b) tru) (seqM (bnd (ret (.bool false)) fun v => ret (.ret v)) (ret .next)) (ret .next)) (normM [64, 95, 35] D_lawB))))))
noncomputable def D_s1 (la : Nat) (zs : List Int) : Mo Fl := bnd (bnd (bnd (dLoc 58) fun v => bnd (ret []) fun vs => ret (v :: vs)) (apF (F_law_cells la zs))) fun v => bnd (putL 59 v) fun _ => ret .next
noncomputable def D_s2 : Mo Fl := bnd (bnd (ret (.lin 0 1)) fun a => bnd (bnd (bnd (dLoc 59) fun a => bnd (ret (.lin 0 0)) fun i => fGet a i) fun a => bnd (ret (.lin 0 4)) fun b => fMod a b) fun b => fAdd a b) fun v => bnd (putC 94 v) fun _ => ret .next
noncomputable def D_s3 : Mo Fl := bnd (bnd (ret (.lin 0 1)) fun a => bnd (bnd (bnd (dLoc 59) fun a => bnd (ret (.lin 0 1)) fun i => fGet a i) fun a => bnd (bnd (ret (.lin 0 6)) fun a => bnd (dCel 94) fun b => fSub a b) fun b => fMod a b) fun b => fAdd a b) fun v => bnd (putC 38 v) fun _ => ret .next
noncomputable def D_s4 : Mo Fl := bnd (bnd (bnd (dLoc 59) fun a => bnd (ret (.lin 0 2)) fun i => fGet a i) fun a => bnd (ret (.lin 0 3)) fun b => fMod a b) fun v => bnd (putL 61 v) fun _ => ret .next
noncomputable def D_s5 : Mo Fl := bnd (bnd (ret (.lin 0 1)) fun a => bnd (bnd (bnd (bnd (dLoc 59) fun a => bnd (ret (.lin 0 2)) fun i => fGet a i) fun a => bnd (ret (.lin 0 3)) fun b => fDiv a b) fun a => bnd (ret (.lin 0 3)) fun b => fMod a b) fun b => fAdd a b) fun v => bnd (putL 60 v) fun _ => ret .next
noncomputable def D_s6 : Mo Fl := bnd (bnd (bnd (dLoc 59) fun a => bnd (ret (.lin 0 3)) fun i => fGet a i) fun a => bnd (ret (.lin 0 5000)) fun b => fMod a b) fun v => bnd (putL 35 v) fun _ => ret .next
noncomputable def D_law (la : Nat) (zs : List Int) (q a b : Int) : Mo Fl := seqM (D_s1 la zs) (seqM D_s2 (seqM D_s3 (seqM D_s4 (seqM D_s5 (seqM D_s6 (reLoc 35 q a b (normM [61, 60, 35] D_lawA)))))))
noncomputable def D_far (e : Mo Fl) : Mo Fl := seqM (bnd (bnd (bnd (dCel 94) fun v => bnd (bnd (dLoc 60) fun v => bnd (bnd (dLoc 61) fun v => bnd (ret []) fun vs => ret (v :: vs)) fun vs => ret (v :: vs)) fun vs => ret (v :: vs)) (apF F_law_pieces)) fun v => bnd (putL 64 v) fun _ => ret .next) (normM [64, 61, 60, 35] e)
noncomputable def D_clo (e : Mo Fl) : Mo Fl := seqM (bnd (bnd (bnd (dCel 38) fun v => bnd (bnd (dLoc 60) fun v => bnd (bnd (dLoc 61) fun v => bnd (ret []) fun vs => ret (v :: vs)) fun vs => ret (v :: vs)) fun vs => ret (v :: vs)) (apF F_law_pieces)) fun v => bnd (putL 95 v) fun _ => ret .next) (normM [64, 95, 35] e)
noncomputable def D_chk (e : Mo Fl) : Mo Fl := seqM (ifM (bnd (dLoc 64) fun a => bnd (dComp [94] [] (bnd (bnd (bnd (ret (.lin 0 1)) fun v => bnd (bnd (bnd (dCel 94) fun a => bnd (ret (.lin 0 1)) fun b => fAdd a b) fun v => bnd (ret []) fun vs => ret (v :: vs)) fun vs => ret (v :: vs)) (apF (f12 gRange1 gRange2))) dSrc) (lp1 (putL 79) (bnd (bnd (dCel 94) fun a => bnd (dLoc 79) fun b => fMod a b) fun a => bnd (ret (.lin 0 0)) fun b => bnd (fEq a b) tru) (bnd (bnd (bnd (dCel 94) fun a => bnd (dLoc 79) fun b => fDiv a b) fun v => bnd (bnd (dLoc 79) fun v => bnd (ret []) fun vs => ret (v :: vs)) fun vs => ret (v :: vs)) (fNew .tup)) 400)) fun b => bnd (fNe a b) tru) (seqM (bnd (ret (.bool false)) fun v => ret (.ret v)) (ret .next)) (ret .next)) (seqM (ifM (bnd (dLoc 95) fun a => bnd (dComp [38] [] (bnd (bnd (bnd (ret (.lin 0 1)) fun v => bnd (bnd (bnd (dCel 38) fun a => bnd (ret (.lin 0 1)) fun b => fAdd a b) fun v => bnd (ret []) fun vs => ret (v :: vs)) fun vs => ret (v :: vs)) (apF (f12 gRange1 gRange2))) dSrc) (lp1 (putL 79) (bnd (bnd (dCel 38) fun a => bnd (dLoc 79) fun b => fMod a b) fun a => bnd (ret (.lin 0 0)) fun b => bnd (fEq a b) tru) (bnd (bnd (bnd (dCel 38) fun a => bnd (dLoc 79) fun b => fDiv a b) fun v => bnd (bnd (dLoc 79) fun v => bnd (ret []) fun vs => ret (v :: vs)) fun vs => ret (v :: vs)) (fNew .tup)) 400)) fun b => bnd (fNe a b) tru) (seqM (bnd (ret (.bool false)) fun v => ret (.ret v)) (ret .next)) (ret .next)) (normM [64, 95, 35] e))
theorem isZ_nat (n : Nat) : isZ (n : Int) = decide (n = 0) := by
  cases n <;> simp [isZ, Nat.beq]
theorem ixN_nat {n : Nat} (h : n ≤ 1000000) : ixN (n : Int) = some n := by
  show (match Nat.ble n 1000000 with | true => some n | false => none) = _
  rw [Nat.ble_eq_true_of_le h]
theorem gChr_nat {n : Nat} (h : n ≤ 55000) (σ : Sto) : gChr (.lin 0 (n : Int)) σ = some (.str [n], σ) := by
  dsimp only [gChr]
  simp only [ixN_nat (Nat.le_trans h (by decide)), show isZ 0 = true from rfl, Nat.ble_eq_true_of_le h]
theorem sign_spec (n : Nat) (h : n ≤ 1000) (σ : Sto) : F_law_sign [.lin 0 (n : Int)] σ = some (.str [signOf n], σ) := by
  have e2 : gChr (.lin 0 ((n : Int) + 128)) σ = some (.str [n + 128], σ) := gChr_nat (n := n + 128) (by lia) σ
  have e3 := gChr_nat (n := n) (by lia) σ
  by_cases h1 : n < 32
  · have e : signOf n = n + 128 := by dsimp only [signOf]; exact (if_pos (.inl h1))
    have d1 : decide ((n : Int) < 32) = true := decide_eq_true (by lia)
    simp [F_law_sign, defF, D_law_sign, zipN, seqM, bnd, ret, ifM, dLoc, look, tru, fLt, cmpM, fEq, intB, apF, f1, fAdd, outF, d1, e2, e]
  · have d1 : decide ((n : Int) < 32) = false := decide_eq_false (by lia)
    by_cases h2 : n = 127
    · subst h2
      simp [F_law_sign, defF, D_law_sign, zipN, seqM, bnd, ret, ifM, dLoc, look, tru, fLt, cmpM, fEq, intB, apF, f1, fAdd, outF]
      rfl
    · have e : signOf n = n := by dsimp only [signOf]; exact (if_neg (by lia))
      have d2 : decide ((n : Int) = 127) = false := decide_eq_false (by lia)
      simp [F_law_sign, defF, D_law_sign, zipN, seqM, bnd, ret, ifM, dLoc, look, tru, fLt, cmpM, fEq, intB, apF, f1, fAdd, outF, d1, d2, e3, e]
/-! _law_octets -/
noncomputable def octB : Mo Fl := (seqM (bnd (dLoc 77) fun a => bnd (ret (.lin 0 64)) fun b => bnd (fDiv a b) fun c => bnd (putL 77 c) fun _ => ret .next) (seqM (bnd (bnd (bnd (bnd (bnd (ret (.lin 0 64)) fun a => bnd (bnd (dLoc 77) fun a => bnd (ret (.lin 0 64)) fun b => fMod a b) fun b => fAdd a b) fun v => bnd (ret []) fun vs => ret (v :: vs)) (apF F_law_sign)) fun a => bnd (dLoc 78) fun b => fAdd a b) fun v => bnd (putL 78 v) fun _ => ret .next) (ret .next)))
noncomputable def octT : Mo Bool := (bnd (dLoc 77) fun a => bnd (ret (.lin 0 63)) fun b => bnd (fGt a b) tru)
theorem fmod64 (n : Nat) : Int.fmod (n : Int) 64 = ((n % 64 : Nat) : Int) := by
  rw [Int.fmod_eq_emod_of_nonneg _ (by decide)]; lia
theorem fdiv64 (n : Nat) : Int.fdiv (n : Int) 64 = ((n / 64 : Nat) : Int) := by
  rw [Int.fdiv_eq_ediv_of_nonneg _ (by decide)]; lia
theorem oct_loop : ∀ (f n : Nat) (acc : List Nat) (σ : Sto), n < 64 ^ f → acc.length + f ≤ 1000 → ∃ ρ' : Loc, whileM octT octB (f + 1) ⟨[(77, .lin 0 (n : Int)), (78, .str acc)], []⟩ σ = some (.next, ρ', σ) ∧ look ρ'.loc 78 = some (.str (octsGo f n acc))
  | 0, n, acc, σ, h, hl => by
    have : n = 0 := by simpa using h
    subst this
    exact ⟨_, rfl, rfl⟩
  | f + 1, n, acc, σ, h, hl => by
    by_cases h1 : n > 63
    · have d1 : decide ((63 : Int) < n) = true := decide_eq_true (by lia)
      obtain ⟨ρ', r1, r2⟩ := oct_loop f (n / 64) (signOf (64 + n / 64 % 64) :: acc) σ (by rw [Nat.pow_succ] at h; lia) (by simp; lia)
      refine ⟨ρ', ?_, by rw [r2]; simp [octsGo, h1]⟩
      simp only [← r1]
      have s1 := sign_spec (64 + n / 64 % 64) (by lia) σ
      have hb : Nat.ble (1 + acc.length) 1000000 = true := Nat.ble_eq_true_of_le (by lia)
      have e1 : octT ⟨[(77, .lin 0 (n : Int)), (78, .str acc)], []⟩ σ = some (true, ⟨[(77, .lin 0 (n : Int)), (78, .str acc)], []⟩, σ) := by
        simp [octT, bnd, ret, dLoc, look, tru, fGt, cmpM, intB, d1]
      have e2 : octB ⟨[(77, .lin 0 (n : Int)), (78, .str acc)], []⟩ σ = some (.next, ⟨[(77, .lin 0 ((n / 64 : Nat) : Int)), (78, .str (signOf (64 + n / 64 % 64) :: acc))], []⟩, σ) := by
        have g1 : fDiv (.lin 0 (n : Int)) (.lin 0 64) ⟨[(77, .lin 0 (n : Int)), (78, .str acc)], []⟩ σ = some (.lin 0 ((n / 64 : Nat) : Int), ⟨[(77, .lin 0 (n : Int)), (78, .str acc)], []⟩, σ) := by
          show some (AV.lin 0 (Int.fdiv (n : Int) 64), _, _) = _
          rw [fdiv64]
        have g2 : fMod (.lin 0 ((n / 64 : Nat) : Int)) (.lin 0 64) ⟨[(77, .lin 0 ((n / 64 : Nat) : Int)), (78, .str acc)], []⟩ σ = some (.lin 0 ((n / 64 % 64 : Nat) : Int), ⟨[(77, .lin 0 ((n / 64 : Nat) : Int)), (78, .str acc)], []⟩, σ) := by
          show some (AV.lin 0 (Int.fmod ((n / 64 : Nat) : Int) 64), _, _) = _
          rw [fmod64]
        have g3 : F_law_sign [.lin 0 (64 + ((n / 64 % 64 : Nat) : Int))] σ = some (.str [signOf (64 + n / 64 % 64)], σ) := by
          simp only [← s1]; congr
        simp only [octB, seqM, bnd, dLoc, look, Nat.beq, ret, g1, putL, lput, g2, fAdd, Int.add_zero, apF, g3, List.length_singleton, hb, List.singleton_append]
      show whileM octT octB (f + 1 + 1) _ σ = _
      rw [show whileM octT octB (f + 1 + 1) = (bnd octT fun b => match b with
        | true => bnd octB fun fl => match fl with
          | .next => whileM octT octB (f + 1)
          | .cont => whileM octT octB (f + 1)
          | .brk => ret .next
          | .ret v => ret (.ret v)
        | false => ret .next) from rfl]
      simp only [bnd, e1, e2]
    · have d1 : decide ((63 : Int) < n) = false := decide_eq_false (by lia)
      refine ⟨⟨[(77, .lin 0 (n : Int)), (78, .str acc)], []⟩, ?_, by simp [look, octsGo, h1, Nat.beq]⟩
      simp [whileM, octT, bnd, ret, dLoc, look, tru, fGt, cmpM, intB, d1]

section
variable {ρ : Loc} {σ : Sto} {a b : Nat}
theorem nAdd : fAdd (.lin 0 (a : Int)) (.lin 0 (b : Int)) ρ σ = some (.lin 0 ((a + b : Nat) : Int), ρ, σ) := rfl
theorem nAdd1 : fAdd (.lin 0 (a : Int)) (.lin 0 1) ρ σ = some (.lin 0 ((a + 1 : Nat) : Int), ρ, σ) := rfl
theorem nEq : fEq (.lin 0 (a : Int)) (.lin 0 (b : Int)) ρ σ = some (.bool (decide (a = b)), ρ, σ) := by
  show some (AV.bool (decide ((a : Int) = (b : Int))), ρ, σ) = _
  congr 4; exact propext Int.ofNat_inj
theorem nSub (h : b ≤ a) : fSub (.lin 0 (a : Int)) (.lin 0 (b : Int)) ρ σ = some (.lin 0 ((a - b : Nat) : Int), ρ, σ) := by
  show some (AV.lin 0 ((a : Int) - (b : Int)), ρ, σ) = _
  rw [Int.ofNat_sub h]
theorem small_nat (h : a < 4294967296) : small (a : Int) = true := Nat.ble_eq_true_of_le h
theorem posB_nat (h : a ≤ 1000000) : posB (a : Int) = true := Nat.ble_eq_true_of_le h
theorem nMul (ha : a < 4294967296) (hb : b < 4294967296) : fMul (.lin 0 (a : Int)) (.lin 0 (b : Int)) ρ σ = some (.lin 0 ((a * b : Nat) : Int), ρ, σ) := by
  dsimp only [fMul]
  rw [small_nat ha, small_nat hb, show isZ 0 = true from rfl]
  rfl
theorem nShr (hb : b ≤ 1000000) : fShr (.lin 0 (a : Int)) (.lin 0 (b : Int)) ρ σ = some (.lin 0 ((a / 2 ^ b : Nat) : Int), ρ, σ) := by
  dsimp only [fShr]
  rw [posB_nat hb, show isZ 0 = true from rfl]
  congr 3
  rw [Int.fdiv_eq_ediv_of_nonneg _ (Int.pow_nonneg (by decide)), Int.toNat_natCast]
  norm_cast
theorem nShr1 : fShr (.lin 0 (a : Int)) (.lin 0 1) ρ σ = some (.lin 0 ((a / 2 : Nat) : Int), ρ, σ) := by
  have := nShr (ρ := ρ) (σ := σ) (a := a) (b := 1) (by decide)
  rw [show (2 : Nat) ^ 1 = 2 from rfl] at this
  exact this
theorem nShl (ha : a < 4294967296) (hb : b ≤ 1000000) : fShl (.lin 0 (a : Int)) (.lin 0 (b : Int)) ρ σ = some (.lin 0 ((a * 2 ^ b : Nat) : Int), ρ, σ) := by
  dsimp only [fShl]
  rw [posB_nat hb, small_nat ha, show isZ 0 = true from rfl]
  congr 3

theorem bitAnd_nat (a b : Nat) : Builtin.bitAnd (a : Int) (b : Int) = ((a &&& b : Nat) : Int) := by
  unfold Builtin.bitAnd
  simp
theorem bitOr_nat (a b : Nat) : Builtin.bitOr (a : Int) (b : Int) = ((a ||| b : Nat) : Int) := by
  unfold Builtin.bitOr Builtin.bitAnd Builtin.bitNot
  rw [decide_eq_false (by lia), decide_eq_false (by lia)]
  simp only
  rw [show (-(-(a : Int) - 1) - 1).toNat = a by lia, show (-(-(b : Int) - 1) - 1).toNat = b by lia]
  lia
theorem and_split (x s : Nat) : x &&& (x / 2 ^ s * 2 ^ s) = x / 2 ^ s * 2 ^ s ∧ x ||| (x / 2 ^ s * 2 ^ s) = x := by
  have e : x / 2 ^ s * 2 ^ s = (x >>> s) <<< s := by simp only [Nat.shiftRight_eq_div_pow, Nat.shiftLeft_eq]
  rw [e]
  constructor <;> apply Nat.eq_of_testBit_eq <;> intro i
  · simp only [Nat.testBit_and, Nat.testBit_shiftLeft, Nat.testBit_shiftRight]
    refine (Classical.em (s ≤ i)).elim (fun h => ?_) fun h => ?_
    · simp only [show s + (i - s) = i by lia]; simp
    · simp [h]
  · simp only [Nat.testBit_or, Nat.testBit_shiftLeft, Nat.testBit_shiftRight]
    refine (Classical.em (s ≤ i)).elim (fun h => ?_) fun h => ?_
    · simp only [show s + (i - s) = i by lia]; simp
    · simp [h]
theorem nXor {s : Nat} : fXor (.lin 0 (a : Int)) (.lin 0 ((a / 2 ^ s * 2 ^ s : Nat) : Int)) ρ σ = some (.lin 0 ((a % 2 ^ s : Nat) : Int), ρ, σ) := by
  unfold fXor conc
  simp only [show isZ 0 = true from rfl]
  congr 3
  unfold Builtin.bitXor
  simp only [bitOr_nat, bitAnd_nat, (and_split a s).1, (and_split a s).2]
  have := Nat.div_add_mod a (2 ^ s)
  rw [Nat.mul_comm] at this
  lia
theorem nAnd : fAnd (.lin 0 (a : Int)) (.lin 0 (b : Int)) ρ σ = some (.lin 0 ((a &&& b : Nat) : Int), ρ, σ) := by
  unfold fAnd conc
  simp only [show isZ 0 = true from rfl]
  congr 3

theorem nOr : fOr (.lin 0 (a : Int)) (.lin 0 (b : Int)) ρ σ = some (.lin 0 ((a ||| b : Nat) : Int), ρ, σ) := by
  unfold fOr conc
  simp only [show isZ 0 = true from rfl]
  congr 3
  exact bitOr_nat a b
end

section
variable {ρ : Loc} {σ σ₁ : Sto}
theorem nCel {k c : Nat} {v : AV} (e : look ρ.cel k = some c) (h : σ.get c = some (.cell (some v))) : dCel k ρ σ = some (v, ρ, σ) := by
  dsimp only [dCel]; simp only [e, h]
theorem nSet {kd i : Nat} {l : List AV} {v : AV} (h : σ.get kd = some (.list l)) (hi : i < l.length) (hl : l.length ≤ 1000) (ep : σ.put kd (.list (l.set i v)) = some σ₁) : fSet (.ref kd) (.lin 0 (i : Int)) v ρ σ = some ((), ρ, σ₁) := by
  dsimp only [fSet]
  have e : ixN (i : Int) = some i := by
    show (match Nat.ble i 1000000 with | true => some i | false => none) = _
    rw [Nat.ble_eq_true_of_le (by lia)]
  simp only [e, h, show isZ 0 = true from rfl, show Nat.blt i l.length = true from Nat.ble_eq_true_of_le hi, ep]
theorem nGet {kd i : Nat} {l : List AV} {v : AV} (h : σ.get kd = some (.list l)) (hl : l.length ≤ 1000) (hv : l[i]? = some v) : fGet (.ref kd) (.lin 0 (i : Int)) ρ σ = some (v, ρ, σ) := by
  dsimp only [fGet]
  have hi := (List.getElem?_eq_some_iff.mp hv).1
  have e : ixN (i : Int) = some i := by
    show (match Nat.ble i 1000000 with | true => some i | false => none) = _
    rw [Nat.ble_eq_true_of_le (by lia)]
  simp only [e, h, show isZ 0 = true from rfl, hv]
end
/-- a closure's ground: its code, its three cells, itself, a number, a list -/
structure In1 (σ : Sto) (iC iF c cd ci cn kf kd n : Nat) (l : List AV) : Prop where
  hc : σ.get c = some (.fn iC [])
  hd : σ.get cd = some (.cell (some (.ref kd)))
  hi : σ.get ci = some (.cell (some (.ref kf)))
  hf : σ.get kf = some (.fn iF [c, cd, ci, cn])
  hn : σ.get cn = some (.cell (some (.lin 0 (n : Int))))
  hl : σ.get kd = some (.list l)
theorem In1.put {σ σ' : Sto} {iC iF c cd ci cn kf kd n : Nat} {l l' : List AV} (I : In1 σ iC iF c cd ci cn kf kd n l) (h1 : ∀ j, j ≠ kd → σ'.get j = σ.get j) (h2 : σ'.get kd = some (.list l')) : In1 σ' iC iF c cd ci cn kf kd n l' := by
  have ne : ∀ {j : Nat} {o : AO}, σ.get j = some o → (∀ l, o ≠ .list l) → j ≠ kd := fun {j o} e hn q => by
    rw [q, I.hl] at e; cases e; exact hn _ rfl
  refine ⟨?_, ?_, ?_, ?_, ?_, h2⟩
  · simp only [h1 _ (ne I.hc (by intro _ q; cases q))]; exact I.hc
  · simp only [h1 _ (ne I.hd (by intro _ q; cases q))]; exact I.hd
  · simp only [h1 _ (ne I.hi (by intro _ q; cases q))]; exact I.hi
  · simp only [h1 _ (ne I.hf (by intro _ q; cases q))]; exact I.hf
  · simp only [h1 _ (ne I.hn (by intro _ q; cases q))]; exact I.hn
theorem mid_facts {L R : Nat} (h : L + 1 < R) : L < (L + R) / 2 ∧ (L + R) / 2 < R := ⟨(Nat.le_div_iff_mul_le (by decide)).mpr (by lia), Nat.div_lt_of_lt_mul (by lia)⟩
theorem mid_le {L R k : Nat} (h : R - L ≤ 2 * k) : (L + R) / 2 - L ≤ k ∧ R - (L + R) / 2 ≤ k := by
  have h := Nat.sub_le_iff_le_add.mp h
  exact ⟨Nat.sub_le_of_le_add (Nat.div_le_of_le_mul (by lia)), Nat.sub_le_of_le_add (Nat.sub_le_iff_le_add'.mp ((Nat.le_div_iff_mul_le (by decide)).mpr (by lia)))⟩
theorem dg_low {x s t n : Nat} (h : t + n ≤ s) : x % 2 ^ s / 2 ^ t % 2 ^ n = x / 2 ^ t % 2 ^ n := by
  apply Nat.eq_of_testBit_eq
  intro j
  simp only [Nat.testBit_mod_two_pow, Nat.testBit_mod_two_pow, ← Nat.shiftRight_eq_div_pow, ← Nat.shiftRight_eq_div_pow, Nat.testBit_shiftRight, Nat.testBit_shiftRight, Nat.testBit_mod_two_pow]
  by_cases hj : j < n
  · have : t + j < s := by lia
    simp [hj, this]
  · simp [hj]
inductive In1R (n kd L R x : Nat) (l : List AV) (σ : Sto) (g : Option (AV × Sto)) : Prop
  | mk (σ' : Sto) (e : g = some (.none, σ')) (nx : σ'.next = σ.next) (old : ∀ j, j ≠ kd → σ'.get j = σ.get j)
    (l' : List AV) (hg : σ'.get kd = some (.list l')) (ln : l'.length = l.length) (el : ∀ i, l'[i]? = if L ≤ i ∧ i < R then some (.lin 0 ((x / 2 ^ (n * (i - L)) % 2 ^ n : Nat) : Int)) else l[i]?) : In1R n kd L R x l σ g
noncomputable def In1S (n c cd ci cn kf kd : Nat) (m : Nat) : Prop := ∀ (L R x : Nat) (l : List AV) (σ : Sto), In1 σ 1 2 c cd ci cn kf kd n l → L < R → R ≤ l.length → l.length ≤ 1000 → x < 2 ^ (n * (R - L)) → x < 4294967296 → R - L ≤ 2 ^ m →
    In1R n kd L R x l σ (G_in1 (m + 1) [c, cd, ci, cn] [.lin 0 (x : Int), .lin 0 (L : Int), .lin 0 (R : Int)] σ)
theorem in1_step {n c cd ci cn kf kd : Nat} (hk : kd < 1000000) (hn : n ≤ 64) (m : Nat) (IH : ∀ m', m = m' + 1 → In1S n c cd ci cn kf kd m') : In1S n c cd ci cn kf kd m := by
    intro L R x l σ I hLR hR hl hx hx2 hm
    have hu : ∀ (w : AV), G_in1 (m + 1) [c, cd, ci, cn] [.lin 0 (x : Int), .lin 0 (L : Int), .lin 0 (R : Int)] σ = outF (D_in1 (G_in1 m) ⟨[(31, .lin 0 (x : Int)), (32, .lin 0 (L : Int)), (33, .lin 0 (R : Int))], [(30, cd), (38, ci), (5, cn)]⟩ σ) := fun _ => by
      show cloF 1 [(31, false), (32, false), (33, false)] [] [30, 38, 5] (D_in1 (G_in1 m)) _ _ σ = _
      simp only [cloF, I.hc, Nat.beq, List.length_cons, List.length_nil]
      rfl
    rw [hu .none]
    by_cases h1 : L + 1 = R
    · obtain ⟨σ₁, ep⟩ := put_some σ hk (.list (l.set L (.lin 0 (x : Int))))
      have hg := Sto.put_get ep
      refine ⟨σ₁, ?_, (hg 0).1, fun j hj => by exact (ife (hg j).2 hj), l.set L (.lin 0 (x : Int)), by exact (ifp (hg kd).2 rfl), by simp, fun i => ?_⟩
      · have e1 : dCel 30 ⟨[(31, .lin 0 (x : Int)), (32, .lin 0 (L : Int)), (33, .lin 0 (R : Int))], [(30, cd), (38, ci), (5, cn)]⟩ σ = _ := nCel rfl I.hd
        have e2 : fSet (.ref kd) (.lin 0 (L : Int)) (.lin 0 (x : Int)) ⟨[(31, .lin 0 (x : Int)), (32, .lin 0 (L : Int)), (33, .lin 0 (R : Int))], [(30, cd), (38, ci), (5, cn)]⟩ σ = _ := nSet I.hl (by lia) hl ep
        simp only [D_in1, seqM, ifM, bnd, dLoc, look, Nat.beq, ret, nAdd1, nEq, tru, decide_eq_true h1, e1, e2, outF]
      · have hx0 : x < 2 ^ n := by rw [← h1, show L + 1 - L = 1 by lia, Nat.mul_one] at hx; exact hx
        by_cases hi : L ≤ i ∧ i < R
        · have : i = L := by lia
          replace this := this.symm; subst this
          rw [if_pos hi, List.getElem?_set_self (by lia)]
          simp only [Nat.sub_self, Nat.mul_zero, Nat.pow_zero, Nat.div_one, Nat.mod_eq_of_lt hx0]
        · rw [if_neg hi, List.getElem?_set_ne (by lia)]
    · have h2 : L + 1 < R := by lia
      cases m with
      | zero => lia
      | succ m =>
        obtain ⟨c1, c2⟩ := mid_le (by rw [Nat.pow_succ, Nat.mul_comm] at hm; exact hm)
        obtain ⟨m1, m2⟩ := mid_facts h2
        have sh : ∀ (ρ : Loc) (σ : Sto), fShr (.lin 0 ((L + R : Nat) : Int)) (.lin 0 1) ρ σ = some (.lin 0 (((L + R) / 2 : Nat) : Int), ρ, σ) := fun _ _ => nShr1
        generalize (L + R) / 2 = M at m1 m2 c1 c2 sh
        have hs : (M - L) * n ≤ 1000000 := by
          have : M - L ≤ 1000 := by lia
          calc (M - L) * n ≤ 1000 * 64 := Nat.mul_le_mul this hn
            _ ≤ 1000000 := by decide
        obtain ⟨σ₁, a1, a2, a3, l₁, a4, a5, a6⟩ := IH m rfl L (M) (x % 2 ^ ((M - L) * n)) l σ I m1 (by lia) hl
          (by simp only [Nat.mul_comm n]; exact Nat.mod_lt _ (Nat.pow_pos (by decide))) (Nat.lt_of_le_of_lt (Nat.mod_le _ _) hx2) (by lia)
        have I₁ := I.put a3 a4
        obtain ⟨σ₂, b1, b2, b3, l₂, b4, b5, b6⟩ := IH m rfl (M) R (x / 2 ^ ((M - L) * n)) l₁ σ₁ I₁ m2 (by lia) (by lia)
          (by
            rw [Nat.div_lt_iff_lt_mul (Nat.pow_pos (by decide)), ← Nat.pow_add, Nat.mul_comm _ n, ← Nat.mul_add, show R - M + (M - L) = R - L by lia]
            exact hx) (Nat.lt_of_le_of_lt (Nat.div_le_self _ _) hx2) (by lia)
        refine ⟨σ₂, ?_, b2.trans a2, fun j hj => (b3 j hj).trans (a3 j hj), l₂, b4, b5.trans a5, fun i => ?_⟩
        · have hx3 : x / 2 ^ ((M - L) * n) < 4294967296 := Nat.lt_of_le_of_lt (Nat.div_le_self _ _) hx2
          have cn' : ∀ (ρ : Loc), look ρ.cel 5 = some cn → dCel 5 ρ σ = some (.lin 0 (n : Int), ρ, σ) := fun ρ e => nCel e I.hn
          have ci' : ∀ (ρ : Loc), look ρ.cel 38 = some ci → dCel 38 ρ σ = some (.ref kf, ρ, σ) := fun ρ e => nCel e I.hi
          have ci'' : ∀ (ρ : Loc), look ρ.cel 38 = some ci → dCel 38 ρ σ₁ = some (.ref kf, ρ, σ₁) := fun ρ e => nCel e I₁.hi
          have lk5 : ∀ l, look (⟨l, [(30, cd), (38, ci), (5, cn)]⟩ : Loc).cel 5 = some cn := fun _ => rfl
          have lk38 : ∀ l, look (⟨l, [(30, cd), (38, ci), (5, cn)]⟩ : Loc).cel 38 = some ci := fun _ => rfl
          have mm : ∀ ρ σ, fMul (.lin 0 ((M - L : Nat) : Int)) (.lin 0 (n : Int)) ρ σ = some (.lin 0 (((M - L) * n : Nat) : Int), ρ, σ) := fun ρ σ => nMul (by lia) (by lia)
          have ss : ∀ ρ σ, fSub (.lin 0 ((M : Nat) : Int)) (.lin 0 (L : Int)) ρ σ = some (.lin 0 ((M - L : Nat) : Int), ρ, σ) := fun ρ σ => nSub (by lia)
          have rr : ∀ ρ σ, fShr (.lin 0 (x : Int)) (.lin 0 (((M - L) * n : Nat) : Int)) ρ σ = some (.lin 0 ((x / 2 ^ ((M - L) * n) : Nat) : Int), ρ, σ) := fun ρ σ => nShr hs
          have ll : ∀ ρ σ, fShl (.lin 0 ((x / 2 ^ ((M - L) * n) : Nat) : Int)) (.lin 0 (((M - L) * n : Nat) : Int)) ρ σ = some (.lin 0 ((x / 2 ^ ((M - L) * n) * 2 ^ ((M - L) * n) : Nat) : Int), ρ, σ) := fun ρ σ => nShl hx3 hs
          simp only [D_in1, seqM, ifM, bnd, dLoc, look, Nat.beq, ret, nAdd1, nAdd, nEq, tru, decide_eq_false h1, sh, putL, lput, ss, cn' _ (lk5 _), mm, rr, ll, nXor, ci' _ (lk38 _), ci'' _ (lk38 _), apV, I.hf, I₁.hf, a1, b1, outF]
        · simp only [b6 i, a6 i]
          by_cases q1 : M ≤ i ∧ i < R
          · rw [if_pos q1, if_pos ⟨by lia, q1.2⟩]
            simp only [Nat.div_div_eq_div_mul, ← Nat.pow_add, Nat.mul_comm _ n, ← Nat.mul_add, show M - L + (i - M) = i - L by lia]
          · simp only [if_neg q1]
            by_cases q2 : L ≤ i ∧ i < M
            · rw [if_pos q2, if_pos ⟨q2.1, by lia⟩]
              have hle : n * (i - L) + n ≤ (M - L) * n := by
                simp only [Nat.mul_comm _ n, ← Nat.mul_succ]
                exact Nat.mul_le_mul_left _ (by lia)
              simp only [dg_low hle]
            · rw [if_neg q2, if_neg (by lia)]
theorem in1_spec (m L R x n : Nat) (l : List AV) (σ : Sto) (c cd ci cn kf kd : Nat) (I : In1 σ 1 2 c cd ci cn kf kd n l) (hk : kd < 1000000) (hLR : L < R) (hR : R ≤ l.length) (hl : l.length ≤ 1000) (hx : x < 2 ^ (n * (R - L))) (hx2 : x < 4294967296) (hn : n ≤ 64) (hm : R - L ≤ 2 ^ m) :
    In1R n kd L R x l σ (G_in1 (m + 1) [c, cd, ci, cn] [.lin 0 (x : Int), .lin 0 (L : Int), .lin 0 (R : Int)] σ) := by
  have h : In1S n c cd ci cn kf kd m := by
    clear hm
    induction m with
    | zero => exact in1_step hk hn 0 fun _ h => nomatch h
    | succ m ih => exact in1_step hk hn (m + 1) fun m' h => Nat.succ.inj h ▸ ih
  exact h L R x l σ I hLR hR hl hx hx2 hm

noncomputable def valL (n : Nat) : List Nat → Nat
  | [] => 0
  | d :: r => d + 2 ^ n * valL n r
theorem valL_append (n : Nat) : ∀ a b : List Nat, valL n (a ++ b) = valL n a + 2 ^ (n * a.length) * valL n b
  | [], b => by simp [valL]
  | d :: r, b => by
    simp only [List.cons_append, valL, valL_append n r b, List.length_cons, Nat.mul_succ, Nat.pow_add, Nat.mul_add]
    simp only [← Nat.mul_assoc, Nat.mul_comm (2 ^ n) (2 ^ (n * r.length))]
    lia
noncomputable def natL (ds : List Nat) : List AV := ds.map fun (d : Nat) => AV.lin 0 (d : Int)
theorem natL_get {ds : List Nat} {i : Nat} (h : i < ds.length) : (natL ds)[i]? = some (.lin 0 ((ds[i] : Nat) : Int)) := by simp [natL, h]
theorem slice_split (ds : List Nat) {L M R : Nat} (h1 : L ≤ M) (h2 : M ≤ R) : (ds.drop L).take (R - L) = (ds.drop L).take (M - L) ++ (ds.drop M).take (R - M) := by
  have e : R - L = (M - L) + (R - M) := by lia
  simp only [e, List.take_add, List.drop_drop, show L + (M - L) = M by lia]
noncomputable def In2S (n : Nat) (ds : List Nat) (σ : Sto) (c cd ci cn : Nat) (m : Nat) : Prop := ∀ L R : Nat, L < R → R ≤ ds.length → valL n ((ds.drop L).take (R - L)) < 4294967296 → R - L ≤ 2 ^ m →
    G_in2 (m + 1) [c, cd, ci, cn] [.lin 0 (L : Int), .lin 0 (R : Int)] σ = some (.lin 0 ((valL n ((ds.drop L).take (R - L)) : Nat) : Int), σ)
theorem in2_step {n : Nat} {ds : List Nat} {σ : Sto} {c cd ci cn kf kd : Nat} (I : In1 σ 4 5 c cd ci cn kf kd n (natL ds)) (hl : ds.length ≤ 1000) (hn : n ≤ 64) (m : Nat) (IH : ∀ m', m = m' + 1 → In2S n ds σ c cd ci cn m') : In2S n ds σ c cd ci cn m := by
    intro L R hLR hR hx hm
    have hu : ∀ (w : AV), G_in2 (m + 1) [c, cd, ci, cn] [.lin 0 (L : Int), .lin 0 (R : Int)] σ = outF (D_in2 (G_in2 m) ⟨[(32, .lin 0 (L : Int)), (33, .lin 0 (R : Int))], [(39, cd), (38, ci), (5, cn)]⟩ σ) := fun _ => by
      show cloF 4 [(32, false), (33, false)] [] [39, 38, 5] (D_in2 (G_in2 m)) _ _ σ = _
      simp only [cloF, I.hc, Nat.beq, List.length_cons, List.length_nil]
      rfl
    simp only [hu .none]
    have cn' : ∀ (ρ : Loc), look ρ.cel 5 = some cn → dCel 5 ρ σ = some (.lin 0 (n : Int), ρ, σ) := fun ρ e => nCel e I.hn
    have ci' : ∀ (ρ : Loc), look ρ.cel 38 = some ci → dCel 38 ρ σ = some (.ref kf, ρ, σ) := fun ρ e => nCel e I.hi
    have cd' : ∀ (ρ : Loc), look ρ.cel 39 = some cd → dCel 39 ρ σ = some (.ref kd, ρ, σ) := fun ρ e => nCel e I.hd
    have lk5 : ∀ l, look (⟨l, [(39, cd), (38, ci), (5, cn)]⟩ : Loc).cel 5 = some cn := fun _ => rfl
    have lk38 : ∀ l, look (⟨l, [(39, cd), (38, ci), (5, cn)]⟩ : Loc).cel 38 = some ci := fun _ => rfl
    have lk39 : ∀ l, look (⟨l, [(39, cd), (38, ci), (5, cn)]⟩ : Loc).cel 39 = some cd := fun _ => rfl
    refine (Classical.em (L + 1 = R)).elim (fun h1 => ?_) fun h1 => ?_
    · have hL : L < ds.length := by lia
      have e1 : ∀ ρ, fGet (.ref kd) (.lin 0 (L : Int)) ρ σ = some (.lin 0 ((ds[L] : Nat) : Int), ρ, σ) := fun ρ => nGet I.hl (by simpa [natL] using hl) (natL_get hL)
      have e2 : valL n ((ds.drop L).take (R - L)) = ds[L] := by
        simp only [show R - L = 1 by lia, List.drop_eq_getElem_cons hL, List.take_succ_cons, List.take_zero]
        simp only [valL, Nat.mul_zero, Nat.add_zero]
      simp only [e2]
      simp only [D_in2, seqM, ifM, bnd, dLoc, look, Nat.beq, ret, nAdd1, nEq, tru, decide_eq_true h1, cd' _ (lk39 _), e1, outF]
    · have h2 : L + 1 < R := by lia
      cases m with
      | zero => lia
      | succ m =>
        obtain ⟨c1, c2⟩ := mid_le (by rw [Nat.pow_succ, Nat.mul_comm] at hm; exact hm)
        obtain ⟨m1, m2⟩ := mid_facts h2
        have sh : ∀ (ρ : Loc) (σ : Sto), fShr (.lin 0 ((L + R : Nat) : Int)) (.lin 0 1) ρ σ = some (.lin 0 (((L + R) / 2 : Nat) : Int), ρ, σ) := fun _ _ => nShr1
        generalize (L + R) / 2 = M at m1 m2 c1 c2 sh
        have hs : (M - L) * n ≤ 1000000 := by
          have : M - L ≤ 1000 := by lia
          calc (M - L) * n ≤ 1000 * 64 := Nat.mul_le_mul this hn
            _ ≤ 1000000 := by decide
        have hsp : valL n ((ds.drop L).take (R - L)) = valL n ((ds.drop L).take (M - L)) + 2 ^ ((M - L) * n) * valL n ((ds.drop (M)).take (R - M)) := by
          rw [slice_split ds (M := M) (by lia) (by lia), valL_append, List.length_take, List.length_drop, Nat.min_eq_left (by lia), Nat.mul_comm n]
        have hpos : 0 < 2 ^ ((M - L) * n) := Nat.pow_pos (by decide)
        have hup : valL n ((ds.drop (M)).take (R - M)) ≤ 2 ^ ((M - L) * n) * valL n ((ds.drop (M)).take (R - M)) := Nat.le_mul_of_pos_left _ hpos
        have b1 := IH m rfl (M) R m2 hR (by lia) (by lia)
        have a1 := IH m rfl L (M) m1 (by lia) (by lia) (by lia)
        have mm : ∀ ρ σ, fMul (.lin 0 ((M - L : Nat) : Int)) (.lin 0 (n : Int)) ρ σ = some (.lin 0 (((M - L) * n : Nat) : Int), ρ, σ) := fun ρ σ => nMul (by lia) (by lia)
        have ss : ∀ ρ σ, fSub (.lin 0 ((M : Nat) : Int)) (.lin 0 (L : Int)) ρ σ = some (.lin 0 ((M - L : Nat) : Int), ρ, σ) := fun ρ σ => nSub (by lia)
        have ll : ∀ ρ σ, fShl (.lin 0 ((valL n ((ds.drop (M)).take (R - M)) : Nat) : Int)) (.lin 0 (((M - L) * n : Nat) : Int)) ρ σ = some (.lin 0 ((valL n ((ds.drop (M)).take (R - M)) * 2 ^ ((M - L) * n) : Nat) : Int), ρ, σ) := fun ρ σ => nShl (by lia) hs
        have e3 : valL n ((ds.drop L).take (R - L)) = valL n ((ds.drop (M)).take (R - M)) * 2 ^ ((M - L) * n) + valL n ((ds.drop L).take (M - L)) := by
          simp only [hsp, Nat.mul_comm (2 ^ ((M - L) * n))]; lia
        simp only [e3]
        simp only [D_in2, seqM, ifM, bnd, dLoc, look, Nat.beq, ret, nAdd1, nAdd, nEq, tru, decide_eq_false h1, sh, putL, lput, ss, cn' _ (lk5 _), mm, ll, ci' _ (lk38 _), apV, I.hf, a1, b1, outF]
theorem in2_spec (m L R n : Nat) (ds : List Nat) (σ : Sto) (c cd ci cn kf kd : Nat) (I : In1 σ 4 5 c cd ci cn kf kd n (natL ds)) (hLR : L < R) (hR : R ≤ ds.length) (hl : ds.length ≤ 1000) (hx : valL n ((ds.drop L).take (R - L)) < 4294967296) (hn : n ≤ 64) (hm : R - L ≤ 2 ^ m) :
    G_in2 (m + 1) [c, cd, ci, cn] [.lin 0 (L : Int), .lin 0 (R : Int)] σ = some (.lin 0 ((valL n ((ds.drop L).take (R - L)) : Nat) : Int), σ) := by
  have h : In2S n ds σ c cd ci cn m := by
    clear hm
    induction m with
    | zero => exact in2_step I hl hn 0 fun _ h => nomatch h
    | succ m ih => exact in2_step I hl hn (m + 1) fun m' h => Nat.succ.inj h ▸ ih
  exact h L R hLR hR hx hm

inductive NwR (σ : Sto) (o : AO) : Prop
  | mk (σ' : Sto) (e : σ.new o = some (σ.next, σ')) (n : σ'.next = σ.next + 1) (g : ∀ j, σ'.get j = if j = σ.next then some o else σ.get j) : NwR σ o
inductive PtR (σ : Sto) (k : Nat) (o : AO) : Prop
  | mk (σ' : Sto) (e : σ.put k o = some σ') (n : σ'.next = σ.next) (g : ∀ j, σ'.get j = if j = k then some o else σ.get j) : PtR σ k o
theorem new_ok (σ : Sto) (h : σ.next < 1000000) (o : AO) : NwR σ o := by
  obtain ⟨σ₁, e⟩ := put_some σ h o
  refine ⟨{ σ₁ with next := σ.next + 1 }, ?_, rfl, fun j => (Sto.put_get e j).2⟩
  unfold Sto.new
  rw [e]
theorem put_ok (σ : Sto) {k : Nat} (h : k < 1000000) (o : AO) : PtR σ k o := by
  obtain ⟨σ₁, e⟩ := put_some σ h o
  exact ⟨σ₁, e, (Sto.put_get e 0).1, fun j => (Sto.put_get e j).2⟩
noncomputable def Wf (σ : Sto) : Prop := ∀ j, σ.next ≤ j → σ.get j = none
theorem Wf.lt {σ : Sto} (w : Wf σ) {j : Nat} {o : AO} (e : σ.get j = some o) : j < σ.next := by
  rcases Nat.lt_or_ge j σ.next with h | h
  · exact h
  · cases (w j h).symm.trans e
/-- a code table, empty or filled -/
noncomputable def TabE (σ : Sto) (t iT iC : Nat) : Prop := σ.get t = some (.fn iT [t]) ∨ ∃ c, σ.get t = some (.fn iT [t, c]) ∧ σ.get c = some (.fn iC [])
theorem nCelPut {ρ : Loc} {σ σ' : Sto} {x c : Nat} {u : Option AV} {v : AV} (e : look ρ.cel x = some c) (h : σ.get c = some (.cell u)) (ep : σ.put c (.cell (some v)) = some σ') : putC x v ρ σ = some ((), ρ, σ') := by
  unfold putC; simp only [e, h, ep]
inductive DdS (σ : Sto) (ρ : Loc) (t iT iC iF x cx : Nat) (fks : List Nat) (l : List (Nat × Nat)) : Prop
  | mk (σ' : Sto) (c : Nat) (kf : Nat) (r1 : dDef t iT iC iF fks x ρ σ = some (.next, ρ, σ')) (r2 : Wf σ') (r3 : σ.next ≤ σ'.next) (r4 : σ'.next ≤ σ.next + 2) (r5 : σ'.get t = some (.fn iT [t, c])) (r6 : σ'.get c = some (.fn iC [])) (r7 : σ'.get kf = some (.fn iF (c :: snds l))) (r8 : σ'.get cx = some (.cell (some (.ref kf)))) (r9 : (∀ j, j < σ.next → j ≠ t → j ≠ cx → σ'.get j = σ.get j)) (r10 : σ.next ≤ kf) (r11 : ((σ.next ≤ c ∧ σ.get t = some (.fn iT [t])) ∨ σ.get t = some (.fn iT [t, c]))) : DdS σ ρ t iT iC iF x cx fks l
theorem dDef_spec {σ : Sto} {ρ : Loc} {t iT iC iF x cx : Nat} {u : Option AV} {fks : List Nat} {l : List (Nat × Nat)} (w : Wf σ) (hn : σ.next ≤ 950000) (T : TabE σ t iT iC) (hl : celsOf ρ fks = some l) (hx : look ρ.cel x = some cx) (hc : σ.get cx = some (.cell u)) :
    DdS σ ρ t iT iC iF x cx fks l := by
  have hcx := w.lt hc
  rcases T with T | ⟨c, T, hC⟩
  · have ht := w.lt T
    have htc : t ≠ cx := fun q => by rw [q, hc] at T; cases T
    obtain ⟨σ₁, a1, a2, a3⟩ := put_ok σ (k := t) (by lia) .dead
    obtain ⟨σ₂, b1, b2, b3⟩ := new_ok σ₁ (by lia) (.fn iC [])
    obtain ⟨σ₃, c1, c2, c3⟩ := put_ok σ₂ (k := t) (by lia) (.fn iT [t, σ₁.next])
    obtain ⟨σ₄, d1, d2, d3⟩ := new_ok σ₃ (by lia) (.fn iF (σ₁.next :: snds l))
    obtain ⟨σ₅, e1, e2, e3⟩ := put_ok σ₄ (k := cx) (by lia) (.cell (some (.ref σ₃.next)))
    replace b2 : σ₂.next = σ.next + 1 := by lia
    replace c2 : σ₃.next = σ.next + 1 := by lia
    replace d2 : σ₄.next = σ.next + 2 := by lia
    replace e2 : σ₅.next = σ.next + 2 := by lia
    have h5 : σ₄.get cx = some (.cell u) := by
      exact (ife (d3 _) (by lia)).trans ((ife (c3 _) (Ne.symm htc)).trans ((ife (b3 _) (by lia)).trans ((ife (a3 _) (Ne.symm htc)).trans (hc))))
    refine ⟨σ₅, σ₁.next, σ₃.next, ?_, ?_, by lia, by lia, ?_, ?_, ?_, ?_, ?_, by lia, .inl ⟨by lia, T⟩⟩
    · unfold dDef
      have hp := nCelPut (v := .ref σ₃.next) hx h5 e1
      simp only [hl, T, Nat.beq_refl, a1, b1, c1, d1, bnd, hp, ret]
    · intro j hj
      exact (ife (e3 _) (by lia)).trans ((ife (d3 _) (by lia)).trans ((ife (c3 _) (by lia)).trans ((ife (b3 _) (by lia)).trans ((ife (a3 _) (by lia)).trans ((w j (by lia)))))))
    · exact (ife (e3 _) htc).trans ((ife (d3 _) (by lia)).trans ((ifp (c3 _) rfl)))
    · exact (ife (e3 _) (by lia)).trans ((ife (d3 _) (by lia)).trans ((ife (c3 _) (by lia)).trans ((ifp (b3 _) rfl))))
    · exact (ife (e3 _) (by lia)).trans ((ifp (d3 _) rfl))
    · exact (ifp (e3 _) rfl)
    · intro j h1 h2 h3
      exact (ife (e3 _) h3).trans ((ife (d3 _) (by lia)).trans ((ife (c3 _) h2).trans ((ife (b3 _) (by lia)).trans ((ife (a3 _) h2)))))
  · have ht := w.lt T
    have htc : t ≠ cx := fun q => by rw [q, hc] at T; cases T
    have hcc : c ≠ cx := fun q => by rw [q, hc] at hC; cases hC
    have hcl := w.lt hC
    obtain ⟨σ₄, d1, d2, d3⟩ := new_ok σ (by lia) (.fn iF (c :: snds l))
    obtain ⟨σ₅, e1, e2, e3⟩ := put_ok σ₄ (k := cx) (by lia) (.cell (some (.ref σ.next)))
    replace e2 : σ₅.next = σ.next + 1 := by lia
    have h5 : σ₄.get cx = some (.cell u) := by
      exact (ife (d3 _) (by lia)).trans (hc)
    refine ⟨σ₅, c, σ.next, ?_, ?_, by lia, by lia, ?_, ?_, ?_, ?_, ?_, by lia, .inr T⟩
    · unfold dDef
      have hp := nCelPut (v := .ref σ.next) hx h5 e1
      simp only [hl, T, Nat.beq_refl, d1, bnd, hp, ret]
    · intro j hj
      exact (ife (e3 _) (by lia)).trans ((ife (d3 _) (by lia)).trans ((w j (by lia))))
    · exact (ife (e3 _) htc).trans ((ife (d3 _) (by lia)).trans (T))
    · exact (ife (e3 _) hcc).trans ((ife (d3 _) (by lia)).trans (hC))
    · exact (ife (e3 _) (by lia)).trans ((ifp (d3 _) rfl))
    · exact (ifp (e3 _) rfl)
    · intro j h1 h2 h3
      exact (ife (e3 _) h3).trans ((ife (d3 _) (by lia)))
noncomputable def digs (n a : Nat) : Nat → List Nat
  | 0 => []
  | m + 1 => (a % 2 ^ n) :: digs n (a / 2 ^ n) m
theorem digs_len (n : Nat) : ∀ (m a : Nat), (digs n a m).length = m
  | 0, _ => rfl
  | m + 1, a => by simp [digs, digs_len n m]
theorem digs_get (n : Nat) : ∀ (m a i : Nat), i < m → (digs n a m)[i]? = some (a / 2 ^ (n * i) % 2 ^ n)
  | 0, _, _, h => absurd h (by lia)
  | m + 1, a, 0, h => by simp [digs]
  | m + 1, a, i + 1, h => by
    simp only [digs, List.getElem?_cons_succ]
    simp only [digs_get n m (a / 2 ^ n) i (by lia), Nat.div_div_eq_div_mul, ← Nat.pow_add, show n + n * i = n * (i + 1) by dsimp only [Nat.mul_succ]; lia]
theorem digs_val (n : Nat) : ∀ (m a : Nat), a < 2 ^ (n * m) → valL n (digs n a m) = a
  | 0, a, h => by simp at h; simp [digs, valL, h]
  | m + 1, a, h => by
    simp only [digs, valL]
    rw [digs_val n m (a / 2 ^ n)]
    · rw [Nat.add_comm]; exact Nat.div_add_mod a (2 ^ n)
    · rw [Nat.div_lt_iff_lt_mul (Nat.pow_pos (by decide)), ← Nat.pow_add]
      rwa [Nat.mul_succ] at h
theorem bits_lt (a : Nat) : a < 2 ^ Builtin.Int.intBits (a : Int) := by
  unfold Builtin.Int.intBits
  by_cases h : a = 0
  · subst h; decide
  · have : ((a : Int) == 0) = false := by simpa using h
    rw [this]
    simp only [Bool.false_eq_true, if_false, Int.natAbs_natCast]
    exact Nat.lt_log2_self
theorem bits_le {a k : Nat} (h : a < 2 ^ k) : Builtin.Int.intBits (a : Int) ≤ k := by
  unfold Builtin.Int.intBits
  by_cases h0 : a = 0
  · subst h0; simp
  · have : ((a : Int) == 0) = false := by simpa using h0
    rw [this]
    simp only [Bool.false_eq_true, if_false, Int.natAbs_natCast]
    have := (Nat.log2_lt h0).mpr h
    lia

theorem mulA_one (v : AV) : ∀ m, mulA [v] m = List.replicate m v
  | 0 => rfl
  | m + 1 => by simp only [mulA, mulA_one v m, List.replicate_succ]; rfl
theorem nDiv {a b : Nat} {ρ : Loc} {σ : Sto} (h0 : b ≠ 0) (h : b < 4294967296) : fDiv (.lin 0 (a : Int)) (.lin 0 (b : Int)) ρ σ = some (.lin 0 ((a / b : Nat) : Int), ρ, σ) := by
  dsimp only [fDiv]
  have z1 : isZ (b : Int) = false := by cases b with | zero => exact absurd rfl h0 | succ b => rfl
  have z2 : Int.emod 0 (b : Int) = 0 := Int.zero_emod _
  have z3 : Int.ediv 0 (b : Int) = 0 := Int.zero_ediv _
  simp only [show isZ 0 = true from rfl, small_nat h, z1, z2, z3]
  rw [Int.fdiv_eq_ediv_of_nonneg _ (by lia)]
  rfl
theorem natL_ext {ds : List Nat} {l : List AV} (h : l.length = ds.length) (hg : ∀ i, i < ds.length → l[i]? = (natL ds)[i]?) : l = natL ds := by
  apply List.ext_getElem?
  intro i
  by_cases hi : i < ds.length
  · exact hg i hi
  · rw [List.getElem?_eq_none_iff.mpr (by lia), List.getElem?_eq_none_iff.mpr (by simp [natL]; lia)]
noncomputable def mDig (n a : Nat) : Nat := (Builtin.Int.intBits (a : Int) + n - 1) / n
theorem mDig_ok {n a : Nat} (h1 : 1 ≤ n) : a < 2 ^ (n * mDig n a) := by
  refine Nat.lt_of_lt_of_le (bits_lt a) (Nat.pow_le_pow_right (by decide) ?_)
  dsimp only [mDig]
  have := Nat.div_add_mod (Builtin.Int.intBits (a : Int) + n - 1) n
  have := Nat.mod_lt (Builtin.Int.intBits (a : Int) + n - 1) (show n > 0 by lia)
  lia
theorem mDig_le {n a k : Nat} (h1 : 1 ≤ n) (h : a < 2 ^ k) : mDig n a ≤ k := by
  have := bits_le h
  dsimp only [mDig]
  rw [Nat.div_le_iff_le_mul_add_pred h1]
  have : k ≤ n * k := Nat.le_mul_of_pos_left _ h1
  lia
theorem mDig_zero {n : Nat} (h1 : 1 ≤ n) : mDig n 0 = 0 := by
  dsimp only [mDig]
  show (0 + n - 1) / n = 0
  exact Nat.div_eq_of_lt (by lia)
theorem mDig_pos {n a : Nat} (h1 : 1 ≤ n) (h : a ≠ 0) : 0 < mDig n a := by
  rcases Nat.eq_zero_or_pos (mDig n a) with q | q
  · have := mDig_ok (a := a) h1
    rw [q] at this; simp at this; exact absurd this h
  · exact q
theorem isZ_ne {a : Nat} (h : a ≠ 0) : isZ (a : Int) = false := by
  cases a with
  | zero => exact absurd rfl h
  | succ a => rfl
inductive I2S (a n : Nat) (σ : Sto) : Prop
  | mk (σ' : Sto) (c : Nat) (kd : Nat) (r1 : F_int2digits [.lin 0 (a : Int), .lin 0 (n : Int)] σ = some (.ref kd, σ')) (r2 : Wf σ') (r3 : σ.next ≤ σ'.next) (r4 : σ'.next ≤ σ.next + 10) (r5 : σ'.get 0 = some (.fn 0 [0, c])) (r6 : σ'.get c = some (.fn 1 [])) (r7 : σ'.get kd = some (.list (natL (digs n a (mDig n a))))) (r8 : (∀ j, j < σ.next → j ≠ 0 → σ'.get j = σ.get j)) (r9 : σ.next ≤ kd) (r10 : ((σ.next ≤ c ∧ σ.get 0 = some (.fn 0 [0])) ∨ σ.get 0 = some (.fn 0 [0, c]))) : I2S a n σ
theorem i2d_spec (a n : Nat) (h1 : 1 ≤ n) (h2 : n ≤ 64) (ha : a < 4294967296) (σ : Sto) (w : Wf σ) (hn : σ.next ≤ 900000) (T : TabE σ 0 0 1) :
    I2S a n σ := by
  have hm := mDig_le (a := a) (k := 32) h1 ha
  have h0 : 0 < σ.next := by rcases T with T | ⟨_, T, _⟩ <;> exact w.lt T
  obtain ⟨s1, a1, a2, a3⟩ := new_ok σ (by lia) (.cell none)
  obtain ⟨s2, b1, b2, b3⟩ := new_ok s1 (by lia) (.cell none)
  obtain ⟨s3, c1, c2, c3⟩ := new_ok s2 (by lia) (.cell none)
  obtain ⟨s4, d1, d2, d3⟩ := put_ok s3 (k := σ.next) (by lia) (.cell (some (.lin 0 (n : Int))))
  obtain ⟨s5, e1, e2, e3⟩ := new_ok s4 (by lia) (.list [.lin 0 0])
  obtain ⟨s6, f1, f2, f3⟩ := new_ok s5 (by lia) (.list (mulA [.lin 0 0] (mDig n a)))
  obtain ⟨s7, g1, g2, g3⟩ := put_ok s6 (k := s1.next) (by lia) (.cell (some (.ref s5.next)))
  replace b2 : s2.next = σ.next + 2 := by lia
  replace c2 : s3.next = σ.next + 3 := by lia
  replace d2 : s4.next = σ.next + 3 := by lia
  replace e2 : s5.next = σ.next + 4 := by lia
  replace f2 : s6.next = σ.next + 5 := by lia
  replace g2 : s7.next = σ.next + 5 := by lia
  have w7 : Wf s7 := fun j hj => by
    exact (ife (g3 _) (by lia)).trans ((ife (f3 _) (by lia)).trans ((ife (e3 _) (by lia)).trans ((ife (d3 _) (by lia)).trans ((ife (c3 _) (by lia)).trans ((ife (b3 _) (by lia)).trans ((ife (a3 _) (by lia)).trans ((w j (by lia)))))))))
  have old7 : ∀ j, j < σ.next → s7.get j = σ.get j := fun j hj => by
    exact (ife (g3 _) (by lia)).trans ((ife (f3 _) (by lia)).trans ((ife (e3 _) (by lia)).trans ((ife (d3 _) (by lia)).trans ((ife (c3 _) (by lia)).trans ((ife (b3 _) (by lia)).trans ((ife (a3 _) (by lia))))))))
  have T7 : TabE s7 0 0 1 := by
    rcases T with T | ⟨c, T, hC⟩
    · exact .inl (by exact (old7 0 h0).trans (T))
    · exact .inr ⟨c, by exact (old7 0 h0).trans (T), by exact (old7 c (w.lt hC)).trans (hC)⟩
  have k38 : s7.get s2.next = some (.cell none) := by
    exact (ife (g3 _) (by lia)).trans ((ife (f3 _) (by lia)).trans ((ife (e3 _) (by lia)).trans ((ife (d3 _) (by lia)).trans ((ifp (c3 _) rfl)))))
  obtain ⟨s8, c, kf, i1, i2, i3, i4, i5, i6, i7, i8, i9, i10, i11⟩ := dDef_spec (ρ := ⟨[(17, .lin 0 (a : Int))], [(5, σ.next), (30, s1.next), (38, s2.next)]⟩) (t := 0) (iT := 0) (iC := 1) (iF := 2) (x := 38) (fks := [30, 38, 5]) (l := [(30, s1.next), (38, s2.next), (5, σ.next)]) w7 (by lia) T7 rfl rfl k38
  have n8 : s8.get σ.next = some (.cell (some (.lin 0 (n : Int)))) := by
    exact (i9 _ (by lia) (by lia) (by lia)).trans ((ife (g3 _) (by lia)).trans ((ife (f3 _) (by lia)).trans ((ife (e3 _) (by lia)).trans ((ifp (d3 _) rfl)))))
  have d8 : s8.get s1.next = some (.cell (some (.ref s5.next))) := by
    exact (i9 _ (by lia) (by lia) (by lia)).trans ((ifp (g3 _) rfl))
  have l8 : s8.get s5.next = some (.list (mulA [.lin 0 0] (mDig n a))) := by
    exact (i9 _ (by lia) (by lia) (by lia)).trans ((ife (g3 _) (by lia)).trans ((ifp (f3 _) rfl)))
  have old8 : ∀ j, j < σ.next → j ≠ 0 → s8.get j = σ.get j := fun j hj hj0 => by
    simp only [i9 _ (by lia) hj0 (by lia), old7 j hj]
  have I8 : In1 s8 1 2 c s1.next s2.next σ.next kf s5.next n (mulA [.lin 0 0] (mDig n a)) := ⟨i6, d8, i8, i7, n8, l8⟩
  have hlen : (mulA [AV.lin 0 0] (mDig n a)).length = mDig n a := by simp only [mulA_one, List.length_replicate]
  have cOld : (σ.next ≤ c ∧ σ.get 0 = some (.fn 0 [0])) ∨ σ.get 0 = some (.fn 0 [0, c]) := by
    rw [← old7 0 h0]
    rcases i11 with ⟨q, q'⟩ | q
    · exact .inl ⟨by lia, q'⟩
    · exact .inr q
  -- the run up to the test
  have hcells : ownCells [5, 30, 38] σ = some ([(5, σ.next), (30, s1.next), (38, s2.next)], s3) := by
    simp only [ownCells, a1, b1, c1]
  have k5 : s3.get σ.next = some (.cell none) := by
    exact (ife (c3 _) (by lia)).trans ((ife (b3 _) (by lia)).trans ((ifp (a3 _) rfl)))
  have hput5 : putC 5 (.lin 0 (n : Int)) ⟨[(17, .lin 0 (a : Int))], [(5, σ.next), (30, s1.next), (38, s2.next)]⟩ s3 = _ := nCelPut rfl k5 d1
  have n4 : s5.get σ.next = some (.cell (some (.lin 0 (n : Int)))) := by exact (ife (e3 _) (by lia)).trans ((ifp (d3 _) rfl))
  have hc5 : dCel 5 ⟨[(17, .lin 0 (a : Int))], [(5, σ.next), (30, s1.next), (38, s2.next)]⟩ s5 = some (.lin 0 (n : Int), ⟨[(17, .lin 0 (a : Int))], [(5, σ.next), (30, s1.next), (38, s2.next)]⟩, s5) := nCel rfl n4
  have hdiv : ∀ ρ s, fDiv (.lin 0 ((Builtin.Int.intBits (a : Int) + n - 1 : Nat) : Int)) (.lin 0 (n : Int)) ρ s = some (.lin 0 ((mDig n a : Nat) : Int), ρ, s) := fun ρ s => nDiv (by lia) (by lia)
  have hsub : ∀ ρ s, fSub (.lin 0 ((Builtin.Int.intBits (a : Int) + n : Nat) : Int)) (.lin 0 1) ρ s = some (.lin 0 ((Builtin.Int.intBits (a : Int) + n - 1 : Nat) : Int), ρ, s) := fun ρ s => by
    have := nSub (ρ := ρ) (σ := s) (a := Builtin.Int.intBits (a : Int) + n) (b := 1) (by lia)
    exact this
  have hmul : ∀ ρ, fMul (.ref s4.next) (.lin 0 ((mDig n a : Nat) : Int)) ρ s5 = some (.ref s5.next, ρ, s6) := fun ρ => by
    dsimp only [fMul]
    have l5 : s5.get s4.next = some (.list [.lin 0 0]) := by exact (ifp (e3 _) rfl)
    have hb : Nat.ble ([AV.lin 0 0].length * mDig n a) 1000000 = true := Nat.ble_eq_true_of_le (by simp; lia)
    simp only [show isZ 0 = true from rfl, small_nat (show mDig n a < 4294967296 by lia), l5, hb, Int.toNat_natCast, mulN, f1]
  have hput30 : putC 30 (.ref s5.next) ⟨[(17, .lin 0 (a : Int))], [(5, σ.next), (30, s1.next), (38, s2.next)]⟩ s6 = _ := nCelPut (u := none) rfl (by exact (ife (f3 _) (by lia)).trans ((ife (e3 _) (by lia)).trans ((ife (d3 _) (by lia)).trans ((ife (c3 _) (by lia)).trans ((ifp (b3 _) rfl)))))) g1
  have hret : ∀ s, s.get s1.next = some (.cell (some (.ref s5.next))) → dCel 30 ⟨[(17, .lin 0 (a : Int))], [(5, σ.next), (30, s1.next), (38, s2.next)]⟩ s = some (.ref s5.next, ⟨[(17, .lin 0 (a : Int))], [(5, σ.next), (30, s1.next), (38, s2.next)]⟩, s) := fun s h => nCel rfl h
  by_cases hz : a = 0
  · subst hz
    have hm0 := mDig_zero (n := n) h1
    refine ⟨s8, c, s5.next, ?_, i2, by lia, by lia, i5, i6, ?_, old8, by lia, cOld⟩
    · simp only [F_int2digits, cellF, hcells, List.append_nil, bindM, bnd, putL, lput, hput5, ret, D_int2digits, seqM, fNew, List.length_cons, List.length_nil, show Nat.ble (0 + 1) 1000000 = true from rfl, e1, dLoc, look, Nat.beq, chkZ, apF, Mine.f1, gBits, show isZ 0 = true from rfl, int0, hc5, nAdd, hsub, hdiv, hmul, hput30, i1, ifM, fTru, show isZ ((0 : Nat) : Int) = true from rfl, Bool.not_true, hret s8 d8, outF]
    · simp only [l8, hm0]; rfl
  · obtain ⟨s9, j1, j2, j3, l', j4, j5, j6⟩ := in1_spec 11 0 (mDig n a) a n (mulA [.lin 0 0] (mDig n a)) s8 c s1.next s2.next σ.next kf s5.next I8 (by lia) (mDig_pos h1 hz) (by lia) (by lia) (by simp only [Nat.sub_zero]; exact mDig_ok h1) ha h2 (by lia)
    have I9 := I8.put j3 j4
    refine ⟨s9, c, s5.next, ?_, ?_, by lia, by lia, ?_, I9.hc, ?_, ?_, by lia, cOld⟩
    · have hz' := isZ_ne hz
      have hc38 : dCel 38 ⟨[(17, .lin 0 (a : Int))], [(5, σ.next), (30, s1.next), (38, s2.next)]⟩ s8 = some (.ref kf, ⟨[(17, .lin 0 (a : Int))], [(5, σ.next), (30, s1.next), (38, s2.next)]⟩, s8) := nCel rfl i8
      have hlen2 : gLen (.ref s5.next) s8 = some (.lin 0 ((mDig n a : Nat) : Int), s8) := by
        dsimp only [gLen]
        simp only [l8, hlen, show Nat.ble (mDig n a) 1000000 = true from Nat.ble_eq_true_of_le (by lia)]
        rfl
      have j1' : G_in1 12 [c, s1.next, s2.next, σ.next] [.lin 0 (a : Int), .lin 0 0, .lin 0 ((mDig n a : Nat) : Int)] s8 = some (.none, s9) := j1
      simp only [F_int2digits, cellF, hcells, List.append_nil, bindM, bnd, putL, lput, hput5, ret, D_int2digits, seqM, fNew, List.length_cons, List.length_nil, show Nat.ble (0 + 1) 1000000 = true from rfl, e1, dLoc, look, Nat.beq, chkZ, apF, Mine.f1, gBits, show isZ 0 = true from rfl, int0, hc5, nAdd, hsub, hdiv, hmul, hput30, i1, ifM, fTru, hz', Bool.not_false, hc38, hret s8 d8, hlen2, apV, I8.hf, snds, j1', hret s9 I9.hd, outF]
    · intro j hj
      simp only [j3 j (by lia), i2 j (by lia)]
    · simp only [j3 0 (by lia), i5]
    · simp only [j4]
      congr 2
      refine natL_ext (by simp only [j5, hlen, digs_len]) fun i hi => ?_
      rw [digs_len] at hi
      rw [j6 i, if_pos ⟨by lia, hi⟩, Nat.sub_zero]
      dsimp only [natL]
      rw [List.getElem?_map, digs_get n _ a i hi]
      rfl
    · intro j hj hj0
      simp only [j3 j (by lia), old8 j hj hj0]

inductive D2S (n kd : Nat) (ds : List Nat) (σ : Sto) : Prop
  | mk (σ' : Sto) (c : Nat) (r1 : F_digits2int [.ref kd, .lin 0 (n : Int)] σ = some (.lin 0 ((valL n ds : Nat) : Int), σ')) (r2 : Wf σ') (r3 : σ.next ≤ σ'.next) (r4 : σ'.next ≤ σ.next + 10) (r5 : σ'.get 1 = some (.fn 3 [1, c])) (r6 : σ'.get c = some (.fn 4 [])) (r7 : (∀ j, j < σ.next → j ≠ 1 → σ'.get j = σ.get j)) (r8 : ((σ.next ≤ c ∧ σ.get 1 = some (.fn 3 [1])) ∨ σ.get 1 = some (.fn 3 [1, c]))) : D2S n kd ds σ
theorem d2i_spec (n kd : Nat) (ds : List Nat) (h2 : n ≤ 64) (hds : ds.length ≤ 1000) (hv : valL n ds < 4294967296) (σ : Sto) (w : Wf σ) (hn : σ.next ≤ 940000) (T : TabE σ 1 3 4) (hk : σ.get kd = some (.list (natL ds))) (hk1 : kd ≠ 1) :
    D2S n kd ds σ := by
  have h0 : 1 < σ.next := by rcases T with T | ⟨_, T, _⟩ <;> exact w.lt T
  have hkl := w.lt hk
  obtain ⟨s1, a1, a2, a3⟩ := new_ok σ (by lia) (.cell none)
  obtain ⟨s2, b1, b2, b3⟩ := new_ok s1 (by lia) (.cell none)
  obtain ⟨s3, c1, c2, c3⟩ := new_ok s2 (by lia) (.cell none)
  obtain ⟨s4, d1, d2, d3⟩ := put_ok s3 (k := σ.next) (by lia) (.cell (some (.ref kd)))
  obtain ⟨s5, e1, e2, e3⟩ := put_ok s4 (k := s1.next) (by lia) (.cell (some (.lin 0 (n : Int))))
  replace b2 : s2.next = σ.next + 2 := by lia
  replace c2 : s3.next = σ.next + 3 := by lia
  replace d2 : s4.next = σ.next + 3 := by lia
  replace e2 : s5.next = σ.next + 3 := by lia
  have w5 : Wf s5 := fun j hj => by
    exact (ife (e3 _) (by lia)).trans ((ife (d3 _) (by lia)).trans ((ife (c3 _) (by lia)).trans ((ife (b3 _) (by lia)).trans ((ife (a3 _) (by lia)).trans ((w j (by lia)))))))
  have old5 : ∀ j, j < σ.next → s5.get j = σ.get j := fun j hj => by
    exact (ife (e3 _) (by lia)).trans ((ife (d3 _) (by lia)).trans ((ife (c3 _) (by lia)).trans ((ife (b3 _) (by lia)).trans ((ife (a3 _) (by lia))))))
  have T5 : TabE s5 1 3 4 := by
    rcases T with T | ⟨c, T, hC⟩
    · exact .inl (by exact (old5 1 h0).trans (T))
    · exact .inr ⟨c, by exact (old5 1 h0).trans (T), by exact (old5 c (w.lt hC)).trans (hC)⟩
  have k38 : s5.get s2.next = some (.cell none) := by
    exact (ife (e3 _) (by lia)).trans ((ife (d3 _) (by lia)).trans ((ifp (c3 _) rfl)))
  obtain ⟨s8, c, kf, i1, i2, i3, i4, i5, i6, i7, i8, i9, i10, i11⟩ := dDef_spec (ρ := ⟨[], [(39, σ.next), (5, s1.next), (38, s2.next)]⟩) (t := 1) (iT := 3) (iC := 4) (iF := 5) (x := 38) (fks := [39, 38, 5]) (l := [(39, σ.next), (38, s2.next), (5, s1.next)]) w5 (by lia) T5 rfl rfl k38
  have n8 : s8.get s1.next = some (.cell (some (.lin 0 (n : Int)))) := by
    exact (i9 _ (by lia) (by lia) (by lia)).trans ((ifp (e3 _) rfl))
  have d8 : s8.get σ.next = some (.cell (some (.ref kd))) := by
    exact (i9 _ (by lia) (by lia) (by lia)).trans ((ife (e3 _) (by lia)).trans ((ifp (d3 _) rfl)))
  have l8 : s8.get kd = some (.list (natL ds)) := by
    simp only [i9 _ (by lia) hk1 (by lia), old5 kd hkl, hk]
  have I8 : In1 s8 4 5 c σ.next s2.next s1.next kf kd n (natL ds) := ⟨i6, d8, i8, i7, n8, l8⟩
  have cOld : (σ.next ≤ c ∧ σ.get 1 = some (.fn 3 [1])) ∨ σ.get 1 = some (.fn 3 [1, c]) := by
    rw [← old5 1 h0]
    rcases i11 with ⟨q, q'⟩ | q
    · exact .inl ⟨by lia, q'⟩
    · exact .inr q
  have hcells : ownCells [39, 5, 38] σ = some ([(39, σ.next), (5, s1.next), (38, s2.next)], s3) := by
    simp only [ownCells, a1, b1, c1]
  have hput39 : putC 39 (.ref kd) ⟨[], [(39, σ.next), (5, s1.next), (38, s2.next)]⟩ s3 = _ := nCelPut (u := none) rfl (by exact (ife (c3 _) (by lia)).trans ((ife (b3 _) (by lia)).trans ((ifp (a3 _) rfl)))) d1
  have hput5 : putC 5 (.lin 0 (n : Int)) ⟨[], [(39, σ.next), (5, s1.next), (38, s2.next)]⟩ s4 = _ := nCelPut (u := none) rfl (by exact (ife (d3 _) (by lia)).trans ((ife (c3 _) (by lia)).trans ((ifp (b3 _) rfl)))) e1
  have hc39 : dCel 39 ⟨[], [(39, σ.next), (5, s1.next), (38, s2.next)]⟩ s8 = some (.ref kd, ⟨[], [(39, σ.next), (5, s1.next), (38, s2.next)]⟩, s8) := nCel rfl d8
  have hc38 : dCel 38 ⟨[], [(39, σ.next), (5, s1.next), (38, s2.next)]⟩ s8 = some (.ref kf, ⟨[], [(39, σ.next), (5, s1.next), (38, s2.next)]⟩, s8) := nCel rfl i8
  have hnl : (natL ds).length = ds.length := by simp [natL]
  have hble : Nat.ble ds.length 1000000 = true := Nat.ble_eq_true_of_le (by lia)
  refine ⟨s8, c, ?_, i2, by lia, by lia, i5, i6, fun j hj hj1 => by exact (i9 j (by lia) hj1 (by lia)).trans ((old5 j hj)), cOld⟩
  refine (Classical.em (ds = [])).elim (fun hz => ?_) fun hz => ?_
  · subst hz
    have l8' : s8.get kd = some (.list []) := l8
    simp only [F_digits2int, cellF, hcells, List.append_nil, bindM, bnd, hput39, hput5, ret, D_digits2int, seqM, i1, ifM, hc39, fTru, l8', List.length_nil, show Nat.ble 0 1000000 = true from rfl, Nat.beq, Bool.not_true, outF, valL]
    rfl
  · have hpos : 0 < ds.length := List.length_pos_iff.mpr hz
    have hbq : Nat.beq ds.length 0 = false := by rw [beq_dec]; exact decide_eq_false (by lia)
    have hlen2 : gLen (.ref kd) s8 = some (.lin 0 ((ds.length : Nat) : Int), s8) := by
      dsimp only [gLen]
      simp only [l8, hnl, hble]
      rfl
    have e4 : (ds.drop 0).take (ds.length - 0) = ds := by simp
    have j1 := in2_spec 11 0 ds.length n ds s8 c σ.next s2.next s1.next kf kd I8 hpos (by lia) hds (by rw [e4]; exact hv) h2 (by lia)
    rw [e4] at j1
    have j1' : G_in2 12 [c, σ.next, s2.next, s1.next] [.lin 0 0, .lin 0 ((ds.length : Nat) : Int)] s8 = some (.lin 0 ((valL n ds : Nat) : Int), s8) := j1
    simp only [F_digits2int, cellF, hcells, List.append_nil, bindM, bnd, hput39, hput5, ret, D_digits2int, seqM, i1, ifM, hc39, fTru, l8, hnl, hble, hbq, Bool.not_false, hc38, apF, f1, hlen2, apV, I8.hf, snds, Nat.beq, j1', outF]

theorem nLe {a b : Int} {ρ : Loc} {σ : Sto} : fLe (.lin 0 a) (.lin 0 b) ρ σ = some (.bool (decide (a ≤ b)), ρ, σ) := rfl
theorem nSubI {a b : Int} {ρ : Loc} {σ : Sto} : fSub (.lin 0 a) (.lin 0 b) ρ σ = some (.lin 0 (a - b), ρ, σ) := rfl
theorem div2_spec (v b n : Nat) (hb : b ≠ 0) (hb2 : b ≤ 1000) (hv : v < 4294967296) (σ σ' : Sto) (e : σ.new (.tup [.lin 0 ((v / b : Nat) : Int), .lin 0 ((v % b : Nat) : Int)]) = some (σ.next, σ')) :
    F_div2n1n [.lin 0 (v : Int), .lin 0 (b : Int), .lin 0 (n : Int)] σ = some (.ref σ.next, σ') := by
  have hbits := bits_le (a := v) (k := 32) hv
  have hd : decide (((Builtin.Int.intBits (v : Int) : Nat) : Int) - (n : Int) ≤ 4000) = true := decide_eq_true (by lia)
  have z1 : isZ (b : Int) = false := by cases b with | zero => exact absurd rfl hb | succ b => rfl
  have g : gDivmod (.lin 0 (v : Int)) (.lin 0 (b : Int)) σ = some (.ref σ.next, σ') := by
    dsimp only [gDivmod]
    have q1 : Int.fdiv (v : Int) (b : Int) = ((v / b : Nat) : Int) := by rw [Int.fdiv_eq_ediv_of_nonneg _ (by lia)]; rfl
    have q2 : Int.fmod (v : Int) (b : Int) = ((v % b : Nat) : Int) := by rw [Int.fmod_eq_emod_of_nonneg _ (by lia)]; rfl
    simp only [show isZ 0 = true from rfl, small_nat (show b < 4294967296 by lia), z1, q1, q2, e]
  simp only [F_div2n1n, defF, zipN, D_div2n1n, seqM, ifM, bnd, dLoc, look, Nat.beq, chkZ, ret, apF, f1, gBits, show isZ 0 = true from rfl, int0, nSubI, nLe, hd, tru, f2, g, outF]
noncomputable def dmB : Mo Fl := (seqM (bnd (bnd (bnd (bnd (bnd (dLoc 25) fun a => bnd (dLoc 5) fun b => fShl a b) fun a => bnd (dLoc 41) fun b => fAdd a b) fun v => bnd (bnd (dLoc 4) fun v => bnd (bnd (dLoc 5) fun v => bnd (ret []) fun vs => ret (v :: vs)) fun vs => ret (v :: vs)) fun vs => ret (v :: vs)) (apF F_div2n1n)) fun v => bnd (unpM [putL 42, putL 25] v) fun _ => ret .next) (seqM (bnd (bnd (dLoc 40) fun a => fun ρ σ => match chkL a σ with | true => bnd (bnd (dLoc 42) fun v => bnd (ret []) fun vs => ret (v :: vs)) (fun vs => apF appF (a :: vs)) ρ σ | false => none) fun _ => ret .next) (ret .next)))
theorem lk_ne {l : List (Nat × AV)} {k j : Nat} {v : AV} (h : k ≠ j) : look (lput l k v) j = look l j := by simp only [look_lput, if_neg h]
theorem lk_eq {l : List (Nat × AV)} {k : Nat} {v : AV} : look (lput l k v) k = some v := by rw [look_lput, if_pos rfl]
theorem natL_snoc (l : List Nat) (q : Nat) : natL l ++ [.lin 0 (q : Int)] = natL (l ++ [q]) := by simp [natL]
/-- one turn: the next quotient's digit hung on -/
theorem dm_body (n b kq r D Q R : Nat) (hi : List Nat) (ρ : Loc) (σ : Sto) (hn : n ≤ 10) (hb : b ≠ 0) (hb2 : b ≤ 1000) (hr : r < b) (hv : r * 2 ^ n + D < 4294967296) (hQ : (r * 2 ^ n + D) / b = Q) (hR : (r * 2 ^ n + D) % b = R) (hhl : hi.length ≤ 40) (hkq : kq < 1000000) (w : Wf σ) (hnx : σ.next < 950000)
    (h25 : look ρ.loc 25 = some (.lin 0 (r : Int))) (h4 : look ρ.loc 4 = some (.lin 0 (b : Int))) (h5 : look ρ.loc 5 = some (.lin 0 (n : Int))) (h40 : look ρ.loc 40 = some (.ref kq)) (h41 : look ρ.loc 41 = some (.lin 0 (D : Int))) (hq : σ.get kq = some (.list (natL hi))) :
    ∃ s2, dmB ρ σ = some (.next, ⟨lput (lput ρ.loc 42 (.lin 0 (Q : Int))) 25 (.lin 0 (R : Int)), ρ.cel⟩, s2) ∧ Wf s2 ∧ s2.next = σ.next + 1 ∧ s2.get kq = some (.list (natL (hi ++ [Q]))) ∧ ∀ j, j < σ.next → j ≠ kq → s2.get j = σ.get j := by
  have hkq2 := w.lt hq
  obtain ⟨s1, a1, a2, a3⟩ := new_ok σ (by lia) (.tup [.lin 0 (Q : Int), .lin 0 (R : Int)])
  obtain ⟨s2, b1, b2, b3⟩ := put_ok s1 (k := kq) hkq (.list (natL hi ++ [.lin 0 (Q : Int)]))
  have hq1 : s1.get kq = some (.list (natL hi)) := (ife (a3 _) (by lia)).trans hq
  refine ⟨s2, ?_, fun j hj => (ife (b3 _) (by lia)).trans ((ife (a3 _) (by lia)).trans (w j (by lia))), by lia, by rw [b3, if_pos rfl, natL_snoc], fun j hj hjq => (ife (b3 _) hjq).trans (ife (a3 _) (by lia))⟩
  have hs : ∀ ρ σ, fShl (.lin 0 (r : Int)) (.lin 0 (n : Int)) ρ σ = some (.lin 0 ((r * 2 ^ n : Nat) : Int), ρ, σ) := fun ρ σ => nShl (by lia) (by lia)
  have hdv := div2_spec (r * 2 ^ n + D) b n hb hb2 hv σ s1 (by rw [hQ, hR]; exact a1)
  have ht : s1.get σ.next = some (.tup [.lin 0 (Q : Int), .lin 0 (R : Int)]) := ifp (a3 _) rfl
  have hap : appF [.ref kq, .lin 0 (Q : Int)] s1 = some (.none, s2) := by
    have hb' : Nat.ble (natL hi).length 1000000 = true := Nat.ble_eq_true_of_le (by simp [natL]; lia)
    simp only [appF, fApp, hq1, hb', b1]
  have l42 : look (lput (lput ρ.loc 42 (.lin 0 (Q : Int))) 25 (.lin 0 (R : Int))) 42 = some (.lin 0 (Q : Int)) := (lk_ne (by decide)).trans lk_eq
  have l40 : look (lput (lput ρ.loc 42 (.lin 0 (Q : Int))) 25 (.lin 0 (R : Int))) 40 = some (.ref kq) := (lk_ne (by decide)).trans ((lk_ne (by decide)).trans h40)
  simp only [dmB, seqM, bnd, dLoc, h25, h5, h4, h41, hs, nAdd, ret, apF, hdv, unpM, ht, List.length_cons, List.length_nil, Nat.beq, seqG, putL, l40, chkL, hq1, l42, hap]
/-- the sums of a turn -/
theorem dm_sum {V Q R b r p q D X Y Z : Nat} (hV : r * p + D = V) (hd : b * Q + R = V) (h : X * b + Y = R * q + Z) : (X + q * Q) * b + Y = r * (q * p) + (Z + q * D) := by
  subst hV
  have e : q * (b * Q + R) = q * (r * p + D) := by rw [hd]
  simp only [Nat.mul_add] at e
  have e1 : (X + q * Q) * b = X * b + q * (b * Q) := by rw [Nat.add_mul, Nat.mul_assoc, Nat.mul_comm Q]
  have e2 : r * (q * p) = q * (r * p) := Nat.mul_left_comm ..
  have e3 : R * q = q * R := Nat.mul_comm ..
  rw [e1, e2]; rw [e3] at h
  lia
inductive DmL (n b kd kq : Nat) (ds : List Nat) (i f r : Nat) (hi : List Nat) (ρ : Loc) (σ : Sto) : Prop
  | mk (ρ' : Loc) (σ' : Sto) (qs : List Nat) (r' : Nat) (r1 : forM (putL 41) dmB f (.rev kd ((i : Int) - 1)) ρ σ = some (.next, ρ', σ')) (r2 : look ρ'.loc 25 = some (.lin 0 ((r' : Nat) : Int))) (r3 : look ρ'.loc 5 = some (.lin 0 (n : Int))) (r4 : look ρ'.loc 40 = some (.ref kq)) (r5 : r' < b) (r6 : qs.length = i) (r7 : σ'.get kq = some (.list (natL (hi ++ qs)))) (r8 : valL n qs.reverse * b + r' = r * 2 ^ (n * i) + valL n (ds.take i)) (r9 : Wf σ') (r10 : σ.next ≤ σ'.next) (r11 : σ'.next ≤ σ.next + i) (r12 : ∀ j, j < σ.next → j ≠ kq → σ'.get j = σ.get j) : DmL n b kd kq ds i f r hi ρ σ
theorem dm_loop (n b kd kq : Nat) (ds : List Nat) (hn : n ≤ 10) (hb : b ≠ 0) (hb2 : b ≤ 1000) (hds : ∀ d ∈ ds, d < 1024) (hdl : ds.length ≤ 40) (hkq : kq < 1000000) (hne : kd ≠ kq) : ∀ (i f r : Nat) (hi : List Nat) (ρ : Loc) (σ : Sto), i ≤ ds.length → i < f → r < b → hi.length + i ≤ 40 → Wf σ → σ.next + i ≤ 940000 →
    look ρ.loc 25 = some (.lin 0 (r : Int)) → look ρ.loc 4 = some (.lin 0 (b : Int)) → look ρ.loc 5 = some (.lin 0 (n : Int)) → look ρ.loc 40 = some (.ref kq) → σ.get kd = some (.list (natL ds)) → σ.get kq = some (.list (natL hi)) →
    DmL n b kd kq ds i f r hi ρ σ
  | 0, 0, _, _, _, _, _, h, _, _, _, _, _, _, _, _, _, _ => absurd h (by lia)
  | _ + 1, 0, _, _, _, _, _, h, _, _, _, _, _, _, _, _, _, _ => absurd h (by lia)
  | 0, f + 1, r, hi, ρ, σ, _, _, hr, _, w, _, h25, _, h5, h40, hkd, hkq' => by
    refine ⟨ρ, σ, [], r, ?_, h25, h5, h40, hr, rfl, by simpa using hkq', by simp [valL], w, Nat.le_refl _, Nat.le_refl _, fun _ _ _ => rfl⟩
    dsimp only [forM]
    simp only [nextS, hkd]
    rfl
  | i + 1, f + 1, r, hi, ρ, σ, hil, hif, hr, hhl, w, hnx, h25, h4, h5, h40, hkd, hkq' => by
    have hil' : i < ds.length := by lia
    have hd : ds[i] < 1024 := hds _ (List.getElem_mem hil')
    have hpow : 2 ^ n ≤ 1024 := Nat.le_trans (Nat.pow_le_pow_right (by decide) hn) (by decide)
    have hrp : r * 2 ^ n ≤ 1000 * 1024 := Nat.mul_le_mul (by lia) hpow
    have hnx1 : nextS σ (.rev kd (((i + 1 : Nat) : Int) - 1)) = some (some (.lin 0 ((ds[i] : Nat) : Int), .rev kd ((i : Int) - 1))) := by
      simp only [show ((i + 1 : Nat) : Int) - 1 = Int.ofNat i by simp]
      simp only [nextS, hkd, natL_get hil']
      rfl
    have htk : ds.take (i + 1) = ds.take i ++ [ds[i]] := List.take_succ_eq_append_getElem hil'
    generalize ds[i] = D at hd hnx1 htk
    have hdm := Nat.div_add_mod (r * 2 ^ n + D) b
    have hRb : (r * 2 ^ n + D) % b < b := Nat.mod_lt _ (by lia)
    obtain ⟨s2, hbody, w2, b2, g2q, g2o⟩ := dm_body n b kq r D _ _ hi ⟨lput ρ.loc 41 (.lin 0 (D : Int)), ρ.cel⟩ σ hn hb hb2 hr (by lia) rfl rfl (by lia) hkq w (by lia) ((lk_ne (by decide)).trans h25) ((lk_ne (by decide)).trans h4) ((lk_ne (by decide)).trans h5) ((lk_ne (by decide)).trans h40) lk_eq hkq'
    generalize (r * 2 ^ n + D) / b = Q at hdm hbody g2q
    generalize (r * 2 ^ n + D) % b = R at hdm hbody hRb
    obtain ⟨ρ', σ', qs, r', r1, r2, r3, r4, r5, r6, r7, r8, r9, r10, r11, r12⟩ := dm_loop n b kd kq ds hn hb hb2 hds hdl hkq hne i f R (hi ++ [Q]) ⟨lput (lput (lput ρ.loc 41 (.lin 0 (D : Int))) 42 (.lin 0 (Q : Int))) 25 (.lin 0 (R : Int)), ρ.cel⟩ s2 (by lia) (by lia) hRb (by simp; lia) w2 (by lia) lk_eq
      ((lk_ne (by decide)).trans ((lk_ne (by decide)).trans ((lk_ne (by decide)).trans h4))) ((lk_ne (by decide)).trans ((lk_ne (by decide)).trans ((lk_ne (by decide)).trans h5))) ((lk_ne (by decide)).trans ((lk_ne (by decide)).trans ((lk_ne (by decide)).trans h40))) ((g2o _ (w.lt hkd) hne).trans hkd) g2q
    refine ⟨ρ', σ', Q :: qs, r', ?_, r2, r3, r4, r5, by simp [r6], by rw [r7, List.append_assoc]; rfl, ?_, r9, by lia, by lia, fun j hj hjq => (r12 j (by lia) hjq).trans (g2o j hj hjq)⟩
    · simp only [← r1]
      show forM (putL 41) dmB (f + 1) _ ρ σ = _
      simp only [forM.eq_2]
      simp only [hnx1, bnd, putL, hbody]
    · rw [List.reverse_cons, valL_append, List.length_reverse, r6, htk, valL_append, List.length_take, Nat.min_eq_left (by lia)]
      simp only [valL, Nat.mul_zero, Nat.add_zero]
      rw [Nat.mul_succ, Nat.pow_add]
      exact dm_sum rfl hdm r8

structure DmP (N : Nat) (σ σ' : Sto) (k : Nat) (q r : Int) (c0 c1 : Nat) : Prop where
  wf : Wf σ'
  le : σ.next ≤ σ'.next
  hi : σ'.next ≤ σ.next + N
  t0 : σ'.get 0 = some (.fn 0 [0, c0])
  d0 : σ'.get c0 = some (.fn 1 [])
  t1 : σ'.get 1 = some (.fn 3 [1, c1])
  d1 : σ'.get c1 = some (.fn 4 [])
  tup : σ'.get k = some (.tup [.lin 0 q, .lin 0 r])
  new : σ.next ≤ k
  old : ∀ j, j < σ.next → j ≠ 0 → j ≠ 1 → σ'.get j = σ.get j
  o0 : (σ.next ≤ c0 ∧ σ.get 0 = some (.fn 0 [0])) ∨ σ.get 0 = some (.fn 0 [0, c0])
  o1 : (σ.next ≤ c1 ∧ σ.get 1 = some (.fn 3 [1])) ∨ σ.get 1 = some (.fn 3 [1, c1])
theorem digs_lt (n : Nat) : ∀ (m a : Nat), ∀ d ∈ digs n a m, d < 2 ^ n
  | 0, _, d, h => by cases h
  | m + 1, a, d, h => by
    rcases List.mem_cons.mp h with rfl | h
    · exact Nat.mod_lt _ (Nat.pow_pos (by decide))
    · exact digs_lt n m _ d h
theorem dmp_eq : D_divmod_pos = seqM (bnd (bnd (dLoc 4) fun a => fun ρ σ => match chkZ a σ with | true => bnd (ret []) (fun vs => apF (f1 gBits) (a :: vs)) ρ σ | false => none) fun v => bnd (putL 5 v) fun _ => ret .next) (seqM (bnd (bnd (bnd (dLoc 17) fun v => bnd (bnd (dLoc 5) fun v => bnd (ret []) fun vs => ret (v :: vs)) fun vs => ret (v :: vs)) (apF F_int2digits)) fun v => bnd (putL 30 v) fun _ => ret .next) (seqM (bnd (ret (.lin 0 0)) fun v => bnd (putL 25 v) fun _ => ret .next) (seqM (bnd (bnd (ret []) (fNew .list)) fun v => bnd (putL 40 v) fun _ => ret .next) (seqM (bnd (bnd (bnd (dLoc 30) fun v => bnd (ret []) fun vs => ret (v :: vs)) dRev) (forM (putL 41) dmB 400)) (seqM (bnd (bnd (dLoc 40) fun a => fun ρ σ => match chkL a σ with | true => bnd (ret []) (fun vs => apF (f1 gRev) (a :: vs)) ρ σ | false => none) fun _ => ret .next) (seqM (bnd (bnd (bnd (dLoc 40) fun v => bnd (bnd (dLoc 5) fun v => bnd (ret []) fun vs => ret (v :: vs)) fun vs => ret (v :: vs)) (apF F_digits2int)) fun v => bnd (putL 29 v) fun _ => ret .next) (seqM (bnd (bnd (bnd (dLoc 29) fun v => bnd (bnd (dLoc 25) fun v => bnd (ret []) fun vs => ret (v :: vs)) fun vs => ret (v :: vs)) (fNew .tup)) fun v => ret (.ret v)) (ret .next)))))))) := rfl
theorem dm_pos_spec (a b : Nat) (hb : b ≠ 0) (hb2 : b ≤ 1000) (ha : a < 4294967296) (σ : Sto) (w : Wf σ) (hn : σ.next ≤ 900000) (T0 : TabE σ 0 0 1) (T1 : TabE σ 1 3 4) :
    ∃ σ' k c0 c1, F_divmod_pos [.lin 0 (a : Int), .lin 0 (b : Int)] σ = some (.ref k, σ') ∧ DmP 100 σ σ' k ((a / b : Nat) : Int) ((a % b : Nat) : Int) c0 c1 := by
  have hbl : b < 2 ^ 10 := by lia
  have n2 := bits_le hbl
  have n1 : 1 ≤ Builtin.Int.intBits (b : Int) := by
    have := bits_lt b
    rcases Nat.eq_zero_or_pos (Builtin.Int.intBits (b : Int)) with q | q
    · rw [q] at this; simp at this; exact absurd this hb
    · exact q
  generalize hnn : Builtin.Int.intBits (b : Int) = n at n1 n2
  have h1lt : 1 < σ.next := by rcases T1 with T | ⟨_, T, _⟩ <;> exact w.lt T
  obtain ⟨s1, c0, kd, a1, a2, a3, a4, a5, a6, a7, a8, a9, a10⟩ := i2d_spec a n n1 (by lia) ha σ w hn T0
  have hm := mDig_le (a := a) (k := 32) n1 ha
  have c1ne : ∀ {c}, σ.get c = some (.fn 4 []) → c ≠ 0 := fun {c} e q => by
    subst q
    rcases T0 with T | ⟨_, T, _⟩ <;> · cases Option.some.inj ((T).symm.trans e)
  have T1' : TabE s1 1 3 4 := by
    rcases T1 with T | ⟨c, T, hC⟩
    · exact .inl (by simp only [a8 1 h1lt (by decide), T])
    · exact .inr ⟨c, by exact (a8 1 h1lt (by decide)).trans (T), by exact (a8 c (w.lt hC) (c1ne hC)).trans (hC)⟩
  obtain ⟨s2, b1, b2, b3⟩ := new_ok s1 (by lia) (.list [])
  have w2 : Wf s2 := fun j hj => by exact (ife (b3 _) (by lia)).trans ((a2 j (by lia)))
  have hkd1 := a2.lt a7
  have g2d : s2.get kd = some (.list (natL (digs n a (mDig n a)))) := by exact (ife (b3 _) (by lia)).trans (a7)
  have g2q : s2.get s1.next = some (.list (natL [])) := by rw [b3, if_pos rfl]; rfl
  have hdl := digs_len n (mDig n a) a
  obtain ⟨ρ3, s3, qs, r, d1, d2, d3, d4, d5, d6, d7, d8, d9, d10, d11, d12⟩ := dm_loop n b kd s1.next (digs n a (mDig n a)) n2 hb hb2 (fun d hd => Nat.lt_of_lt_of_le (digs_lt n _ _ d hd) (Nat.le_trans (Nat.pow_le_pow_right (by decide) n2) (by decide))) (by lia) (by lia) (by lia)
    (mDig n a) 400 0 [] ⟨[(17, .lin 0 (a : Int)), (4, .lin 0 (b : Int)), (5, .lin 0 (n : Int)), (30, .ref kd), (25, .lin 0 0), (40, .ref s1.next)], []⟩ s2 (by lia) (by lia) (by lia) (by simp; lia) w2 (by lia) rfl rfl rfl rfl g2d g2q
  rw [List.nil_append] at d7
  have hval : valL n qs.reverse * b + r = a := by
    rw [d8, Nat.zero_mul, Nat.zero_add, List.take_of_length_le (by lia), digs_val n _ a (mDig_ok n1)]
  have hq : valL n qs.reverse = a / b := by
    rw [← hval, Nat.add_comm, Nat.add_mul_div_right _ _ (by lia), Nat.div_eq_of_lt d5, Nat.zero_add]
  have hr : r = a % b := by
    simp only [← hval, Nat.add_comm, Nat.add_mul_mod_self_right, Nat.mod_eq_of_lt d5]
  have hqle : a / b ≤ a := Nat.div_le_self _ _
  obtain ⟨s4, e1, e2, e3⟩ := put_ok s3 (k := s1.next) (by lia) (.list (natL qs).reverse)
  have hrev : (natL qs).reverse = natL qs.reverse := by simp [natL]
  have w4 : Wf s4 := fun j hj => by exact (ife (e3 _) (by lia)).trans ((d9 j (by lia)))
  have old3 : ∀ j, j < s1.next → s3.get j = s1.get j := fun j hj => by exact (d12 j (by lia) (by lia)).trans ((ife (b3 _) (by lia)))
  have T4 : TabE s4 1 3 4 := by
    rcases T1' with T | ⟨c, T, hC⟩
    · have := a2.lt T
      exact .inl (by exact (ife (e3 _) (by lia)).trans ((old3 1 this).trans (T)))
    · have h1 := a2.lt T
      have h2 := a2.lt hC
      exact .inr ⟨c, by exact (ife (e3 _) (by lia)).trans ((old3 1 h1).trans (T)), by exact (ife (e3 _) (by lia)).trans ((old3 c h2).trans (hC))⟩
  have g4 : s4.get s1.next = some (.list (natL qs.reverse)) := by rw [e3, if_pos rfl, hrev]
  obtain ⟨s5, c1, f1', f2, f3, f4, f5, f6, f7, f8⟩ := d2i_spec n s1.next qs.reverse (by lia) (by simp; lia) (by rw [hq]; lia) s4 w4 (by lia) T4 g4 (by lia)
  obtain ⟨s6, g1, g2, g3⟩ := new_ok s5 (by lia) (.tup [.lin 0 ((valL n qs.reverse : Nat) : Int), .lin 0 (r : Int)])
  have hc0 := a2.lt a6
  have h00 := a2.lt a5
  have g50 : s5.get 0 = some (.fn 0 [0, c0]) := by exact (f7 0 (by lia) (by decide)).trans ((ife (e3 _) (by lia)).trans ((old3 0 h00).trans (a5)))
  have hc0n : c0 ≠ 1 := fun q => by
    subst q
    rcases T1' with T | ⟨_, T, _⟩ <;> · cases Option.some.inj ((T).symm.trans a6)
  have g5c : s5.get c0 = some (.fn 1 []) := by exact (f7 c0 (by lia) hc0n).trans ((ife (e3 _) (by lia)).trans ((old3 c0 hc0).trans (a6)))
  have hc1 := f2.lt f6
  have h51 := f2.lt f5
  refine ⟨s6, s5.next, c0, c1, ?_, ⟨?_, by lia, by lia, ?_, ?_, ?_, ?_, ?_, by lia, ?_, a10, ?_⟩⟩
  · have hrv : gRev (.ref s1.next) s3 = some (.none, s4) := by
      have hb' : Nat.ble (natL qs).length 1000000 = true := Nat.ble_eq_true_of_le (by simp [natL]; lia)
      dsimp only [gRev]
      simp only [d7, hb', e1]
    have hnl : (natL (digs n a (mDig n a))).length = mDig n a := by simp [natL, hdl]
    have hbits : gBits (.lin 0 (b : Int)) σ = some (.lin 0 (n : Int), σ) := by
      show some (AV.lin 0 ((Builtin.Int.intBits (b : Int) : Nat) : Int), σ) = _
      rw [hnn]
    simp only [F_divmod_pos, defF, zipN, dmp_eq, seqM, bnd, dLoc, look, Nat.beq, chkZ, ret, apF, Mine.f1, hbits, putL, lput, a1, fNew, List.length_nil, show Nat.ble 0 1000000 = true from rfl, b1, dRev, g2d, hnl]
    rw [d1]
    simp only [bnd, dLoc, ret, apF, putL, fNew, d4, d3, d2, chkL, d7, hrv, f1', lput, List.length_cons, List.length_nil, show Nat.ble (0 + 1 + 1) 1000000 = true from rfl, lk_eq, lk_ne (show (29 : Nat) ≠ 25 by decide), g1, outF]
  · intro j hj
    exact (ife (g3 _) (by lia)).trans ((f2 j (by lia)))
  · exact (ife (g3 _) (by lia)).trans (g50)
  · exact (ife (g3 _) (by lia)).trans (g5c)
  · exact (ife (g3 _) (by lia)).trans (f5)
  · exact (ife (g3 _) (by lia)).trans (f6)
  · rw [g3, if_pos rfl, hq, hr]
  · intro j hj h0 h1
    exact (ife (g3 _) (by lia)).trans ((f7 j (by lia) h1).trans ((ife (e3 _) (by lia)).trans ((old3 j (by lia)).trans ((a8 j hj h0)))))
  · have e41 : s4.get 1 = σ.get 1 := by exact (ife (e3 _) (by lia)).trans ((old3 1 (by lia)).trans ((a8 1 h1lt (by decide))))
    rw [e41] at f8
    rcases f8 with ⟨q, q'⟩ | q
    · exact .inl ⟨by lia, q'⟩
    · exact .inr q

theorem DmP.wrap {N : Nat} {σ σ' σ'' : Sto} {k : Nat} {q r q' r' : Int} {c0 c1 : Nat} (D : DmP N σ σ' k q r c0 c1) (b2 : σ''.next = σ'.next + 1) (b3 : ∀ j, σ''.get j = if j = σ'.next then some (.tup [.lin 0 q', .lin 0 r']) else σ'.get j) : DmP (N + 1) σ σ'' σ'.next q' r' c0 c1 := by
  have l0 := D.wf.lt D.t0
  have l1 := D.wf.lt D.t1
  have lc0 := D.wf.lt D.d0
  have lc1 := D.wf.lt D.d1
  have := D.le
  have := D.hi
  refine ⟨fun j hj => ?_, by lia, by lia, ?_, ?_, ?_, ?_, ?_, by lia, fun j hj h0 h1 => ?_, D.o0, D.o1⟩
  · exact (ife (b3 _) (by lia)).trans ((D.wf j (by lia)))
  · exact (ife (b3 _) (by lia)).trans (D.t0)
  · exact (ife (b3 _) (by lia)).trans (D.d0)
  · exact (ife (b3 _) (by lia)).trans (D.t1)
  · exact (ife (b3 _) (by lia)).trans (D.d1)
  · exact (ifp (b3 _) rfl)
  · exact (ife (b3 _) (by lia)).trans ((D.old j hj h0 h1))
theorem iEq0 {z : Int} {ρ : Loc} {σ : Sto} : fEq (.lin 0 z) (.lin 0 0) ρ σ = some (.bool (decide (z = 0)), ρ, σ) := rfl
theorem iLt0 {z : Int} {ρ : Loc} {σ : Sto} : fLt (.lin 0 z) (.lin 0 0) ρ σ = some (.bool (decide (z < 0)), ρ, σ) := rfl
theorem iNeg {z : Int} {ρ : Loc} {σ : Sto} : fNeg (.lin 0 z) ρ σ = some (.lin 0 (-z), ρ, σ) := rfl
theorem iInv {z : Int} {ρ : Loc} {σ : Sto} : fInv (.lin 0 z) ρ σ = some (.lin 0 (-z - 1), ρ, σ) := rfl
theorem iAdd {a b : Int} {ρ : Loc} {σ : Sto} : fAdd (.lin 0 a) (.lin 0 b) ρ σ = some (.lin 0 (a + b), ρ, σ) := rfl
noncomputable abbrev SF' := List AV → Sto → Option (AV × Sto)
theorem idm1 (G : SF') (a b : Nat) (hb : b ≠ 0) (hb2 : b ≤ 1000) (ha : a < 4294967296) (σ : Sto) (w : Wf σ) (hn : σ.next ≤ 900000) (T0 : TabE σ 0 0 1) (T1 : TabE σ 1 3 4) :
    ∃ σ' k c0 c1, F_idm G [.lin 0 (a : Int), .lin 0 (b : Int)] σ = some (.ref k, σ') ∧ DmP 100 σ σ' k ((a : Int).fdiv b) ((a : Int).fmod b) c0 c1 := by
  obtain ⟨σ', k, c0, c1, e, D⟩ := dm_pos_spec a b hb hb2 ha σ w hn T0 T1
  refine ⟨σ', k, c0, c1, ?_, ?_⟩
  · have d1 : decide ((b : Int) = 0) = false := decide_eq_false (by lia)
    have d2 : decide ((b : Int) < 0) = false := decide_eq_false (by lia)
    have d3 : decide ((a : Int) < 0) = false := decide_eq_false (by lia)
    simp only [F_idm, defF, zipN, D_idm, seqM, ifM, bnd, dLoc, look, Nat.beq, ret, iEq0, iLt0, tru, d1, d2, d3, apF, e, outF]
  · have q1 : Int.fdiv (a : Int) (b : Int) = ((a / b : Nat) : Int) := by rw [Int.fdiv_eq_ediv_of_nonneg _ (by lia)]; rfl
    have q2 : Int.fmod (a : Int) (b : Int) = ((a % b : Nat) : Int) := by rw [Int.fmod_eq_emod_of_nonneg _ (by lia)]; rfl
    simp only [q1, q2]; exact D
theorem neg_div {m b : Nat} (hb : b ≠ 0) : Int.fdiv (-(m : Int) - 1) b = -(Int.fdiv (m : Int) b) - 1 ∧ Int.fmod (-(m : Int) - 1) b = b + (-(Int.fmod (m : Int) b) - 1) := by
  have q1 : Int.fdiv (m : Int) (b : Int) = ((m / b : Nat) : Int) := by rw [Int.fdiv_eq_ediv_of_nonneg _ (by lia)]; rfl
  have q2 : Int.fmod (m : Int) (b : Int) = ((m % b : Nat) : Int) := by rw [Int.fmod_eq_emod_of_nonneg _ (by lia)]; rfl
  have h1 := Nat.div_add_mod m b
  have h2 := Nat.mod_lt m (show b > 0 by lia)
  have e : -(m : Int) - 1 = ((b : Int) + (-((m % b : Nat) : Int) - 1)) + b * (-((m / b : Nat) : Int) - 1) := by
    have h3 : (m : Int) = (b : Int) * ((m / b : Nat) : Int) + ((m % b : Nat) : Int) := by
      rw [← Int.natCast_mul, ← Int.natCast_add]; exact congrArg _ h1.symm
    have h4 : (b : Int) * (-((m / b : Nat) : Int) - 1) = -((b : Int) * ((m / b : Nat) : Int)) - b := by simp only [Int.mul_sub, Int.mul_neg, Int.mul_one]
    simp only [h4]
    lia
  rw [q1, q2]
  constructor
  · rw [e, Int.add_mul_fdiv_left _ _ (by lia)]
    have : Int.fdiv ((b : Int) + (-((m % b : Nat) : Int) - 1)) b = 0 := by
      rw [Int.fdiv_eq_ediv_of_nonneg _ (by lia)]
      exact Int.ediv_eq_zero_of_lt (by lia) (by lia)
    rw [this]; lia
  · rw [e, Int.add_mul_fmod_self_left, Int.fmod_eq_emod_of_nonneg _ (by lia)]
    exact Int.emod_eq_of_lt (by lia) (by lia)
theorem idm2 (G : SF') (z : Int) (b : Nat) (hb : b ≠ 0) (hb2 : b ≤ 1000) (hz1 : -2147483648 < z) (hz2 : z < 2147483649) (σ : Sto) (w : Wf σ) (hn : σ.next ≤ 900000) (T0 : TabE σ 0 0 1) (T1 : TabE σ 1 3 4) :
    ∃ σ' k c0 c1, F_idm (F_idm G) [.lin 0 z, .lin 0 (b : Int)] σ = some (.ref k, σ') ∧ DmP 101 σ σ' k (z.fdiv b) (z.fmod b) c0 c1 := by
  by_cases h : z < 0
  · have ez : z = -((-z - 1).toNat : Int) - 1 := by lia
    generalize hm : (-z - 1).toNat = m at ez
    obtain ⟨σ', k, c0, c1, e, D⟩ := idm1 G m b hb hb2 (by lia) σ w hn T0 T1
    have hhi := D.hi
    obtain ⟨s6, g1, g2, g3⟩ := new_ok σ' (by lia) (.tup [.lin 0 (-(Int.fdiv (m : Int) b) - 1), .lin 0 (b + (-(Int.fmod (m : Int) b) - 1))])
    refine ⟨s6, σ'.next, c0, c1, ?_, ?_⟩
    · have d1 : decide ((b : Int) = 0) = false := decide_eq_false (by lia)
      have d2 : decide ((b : Int) < 0) = false := decide_eq_false (by lia)
      have d3 : decide (z < 0) = true := decide_eq_true h
      have ez' : -z - 1 = (m : Int) := by lia
      simp only [F_idm, defF, zipN, D_idm, seqM, ifM, bnd, dLoc, look, Nat.beq, ret, iEq0, iLt0, tru, d1, d2, d3, iInv, ez', apF]
      have e' := e
      simp only [F_idm, defF, zipN, D_idm, seqM, ifM, bnd, dLoc, look, Nat.beq, ret, iEq0, iLt0, tru, d1, d2, apF] at e'
      rw [e']
      simp only [unpM, D.tup, List.length_cons, List.length_nil, Nat.beq, seqG, putL, lput, bnd, ret, dLoc, look, iInv, iAdd, fNew, show Nat.ble (0 + 1 + 1) 1000000 = true from rfl, g1, outF]
    · have := neg_div (m := m) hb
      simp only [ez, this.1, this.2]
      exact D.wrap g2 g3
  · have ez : z = (z.toNat : Int) := by lia
    rw [ez]
    obtain ⟨σ', k, c0, c1, e, D⟩ := idm1 (F_idm G) z.toNat b hb hb2 (by lia) σ w hn T0 T1
    exact ⟨σ', k, c0, c1, e, ⟨D.wf, D.le, by have := D.hi; lia, D.t0, D.d0, D.t1, D.d1, D.tup, D.new, D.old, D.o0, D.o1⟩⟩
theorem neg_div2 {z : Int} {b : Int} : Int.fdiv z (-b) = Int.fdiv (-z) b ∧ Int.fmod z (-b) = -(Int.fmod (-z) b) := by
  have h1 := Int.neg_fdiv_neg (-z) b
  have h2 := Int.neg_fmod_neg (-z) b
  rw [Int.neg_neg] at h1 h2
  exact ⟨h1, h2⟩
theorem idm_spec (z d : Int) (hd : d ≠ 0) (hd1 : -1000 ≤ d) (hd2 : d ≤ 1000) (hz1 : -2147483648 < z) (hz2 : z < 2147483648) (σ : Sto) (w : Wf σ) (hn : σ.next ≤ 900000) (T0 : TabE σ 0 0 1) (T1 : TabE σ 1 3 4) :
    ∃ σ' k c0 c1, F_idm3 [.lin 0 z, .lin 0 d] σ = some (.ref k, σ') ∧ DmP 102 σ σ' k (z.fdiv d) (z.fmod d) c0 c1 := by
  by_cases h : d < 0
  · have ed : d = -((-d).toNat : Int) := by lia
    generalize hb : (-d).toNat = b at ed
    obtain ⟨σ', k, c0, c1, e, D⟩ := idm2 (fun _ _ => none) (-z) b (by lia) (by lia) (by lia) (by lia) σ w hn T0 T1
    have hhi := D.hi
    obtain ⟨s6, g1, g2, g3⟩ := new_ok σ' (by lia) (.tup [.lin 0 (Int.fdiv (-z) b), .lin 0 (-(Int.fmod (-z) b))])
    refine ⟨s6, σ'.next, c0, c1, ?_, ?_⟩
    · have d1 : decide (d = 0) = false := decide_eq_false hd
      have d2 : decide (d < 0) = true := decide_eq_true h
      have ed' : -d = (b : Int) := by lia
      have hF : F_idm3 [.lin 0 z, .lin 0 d] σ = outF (D_idm (F_idm (F_idm fun _ _ => none)) ⟨[(17, .lin 0 z), (4, .lin 0 d)], []⟩ σ) := rfl
      simp only [hF]
      generalize F_idm (F_idm fun _ _ => none) = G at e
      simp only [D_idm, seqM, ifM, bnd, dLoc, look, Nat.beq, ret, iEq0, iLt0, tru, d1, d2, iNeg, ed', apF, e, unpM, D.tup, List.length_cons, List.length_nil, seqG, putL, lput, fNew, show Nat.ble (0 + 1 + 1) 1000000 = true from rfl, g1, outF]
    · have := neg_div2 (z := z) (b := b)
      simp only [ed, this.1, this.2]
      exact D.wrap g2 g3
  · have ed : d = (d.toNat : Int) := by lia
    generalize hb : d.toNat = b at ed
    subst ed
    obtain ⟨σ', k, c0, c1, e, D⟩ := idm2 (F_idm fun _ _ => none) z b (by lia) (by lia) (by lia) (by lia) σ w hn T0 T1
    exact ⟨σ', k, c0, c1, e, ⟨D.wf, D.le, by have := D.hi; lia, D.t0, D.d0, D.t1, D.d1, D.tup, D.new, D.old, D.o0, D.o1⟩⟩

section
variable {W : Wo} {cx : Cx}
theorem St.wf {ads : List Addr} {ρ : Loc} {σ : Sto} {h : Heap} (S : St W cx ads ρ σ h) : Wf σ := fun j hj => by
  cases e : σ.get j with
  | none => rfl
  | some o =>
    obtain ⟨a, _, e1, _⟩ := S.obj j o e
    have := (List.getElem?_eq_some_iff.mp e1).1
    rw [S.len] at hj
    lia
theorem isFnO_is {o : Option AO} {i : Nat} {l : List Nat} (h : isFnO o i l = true) : o = some (.fn i l) := by
  unfold isFnO at h
  split at h
  · obtain ⟨h1, h2⟩ := (Bool.and_eq_true _ _).mp h
    have hqq := Nat.eq_of_beq_eq_true h1; subst hqq
    cases of_decide_eq_true h2
    rfl
  · injection h
theorem newTup_is {l : List AV} {σ σ' : Sto} {v : AV} (h : newTup l σ = some (v, σ')) : v = .ref σ.next ∧ σ'.next = σ.next + 1 ∧ ∀ j, σ'.get j = if j = σ.next then some (.tup l) else σ.get j := by
  unfold newTup at h
  split at h
  · rename_i k σ₁ e
    cases Option.some.inj h
    exact ⟨congrArg AV.ref (Sto.new_get e 0).1, (Sto.new_get e 0).2.1, fun j => (Sto.new_get e 0).1 ▸ (Sto.new_get e j).2.2⟩
  · exact nos h
theorem fillT_is {σ σ' : Sto} {c0 c1 : Nat} (h : fillT σ = some (c0, c1, σ')) : c0 = σ.next ∧ c1 = σ.next + 1 ∧ σ'.next = σ.next + 2 ∧ ∀ j, σ'.get j = if j = 1 then some (.fn 3 [1, c1]) else if j = c1 then some (.fn 4 []) else if j = 0 then some (.fn 0 [0, c0]) else if j = c0 then some (.fn 1 []) else σ.get j := by
  unfold fillT at h
  split at h
  · rename_i k0 s1 e1
    split at h
    · rename_i s2 e2
      split at h
      · rename_i k1 s3 e3
        split at h
        · rename_i s4 e4
          cases Option.some.inj h
          have a := Sto.new_get e1
          have b := Sto.put_get e2
          have c := Sto.new_get e3
          have d := Sto.put_get e4
          refine ⟨(a 0).1, by rw [(c 0).1, (b 0).1, (a 0).2.1], by rw [(d 0).1, (c 0).2.1, (b 0).1, (a 0).2.1], fun j => ?_⟩
          simp only [(d j).2, (c j).2.2, (b j).2, (a j).2.2]
        · exact nos h
      · exact nos h
    · exact nos h
  · exact nos h
theorem OR.fn2 {ads ads' : List Addr} {id t c t' c' : Nat} {o : Obj} {x y : Addr} (h : ORw W ads (.fn id [t, c]) o) (e1 : ads[t]? = some x) (e2 : ads[c]? = some y) (f1 : ads'[t']? = some x) (f2 : ads'[c']? = some y) : ORw W ads' (.fn id [t', c']) o := by
  obtain ⟨cs, e, r⟩ := h
  refine ⟨cs, ?_, r⟩
  simp only [← e]
  simp only [List.map_cons, List.map_nil, e1, e2, f1, f2]
theorem OR.fn0 {ads ads' : List Addr} {id : Nat} {o : Obj} (h : ORw W ads (.fn id []) o) : ORw W ads' (.fn id []) o := h
theorem OR.tup2 {ads ads' : List Addr} {a b r : Int} {o : Obj} (h : ORw W ads (.tup [.lin 0 (a * W.q + b), .lin 0 r]) o) : ORw W ads' (.tup [.lin a b, .lin 0 r]) o := by
  obtain ⟨us, m, e, r⟩ := h
  obtain ⟨u1, u2, rfl, ⟨t1, e1⟩, h2⟩ := VRs.two r
  exact ⟨[u1, u2], m, e, ⟨t1, by rw [e1, Int.zero_mul, Int.zero_add]⟩, h2, trivial⟩
theorem St.neq {ads : List Addr} {ρ : Loc} {σ : Sto} {h : Heap} (S : St W cx ads ρ σ h) {i j : Nat} {a b : Addr} {x y : AO} (ei : ads[i]? = some a) (ej : ads[j]? = some b) (hi : σ.get i = some x) (hj : σ.get j = some y) (hxy : x ≠ y) : a ≠ b := fun q => by
  subst q
  cases nodup_get S.nd ei ej
  exact hxy (Option.some.inj (hi.symm.trans hj))
theorem St.nold {ads ads₂ : List Addr} {ρ : Loc} {σ σ₂ : Sto} {h h₂ : Heap} (S : St W cx ads ρ σ h) (S₂ : St W cx ads₂ ρ σ₂ h₂) (X : Ext ads ads₂) {i : Nat} {a : Addr} (hi : σ.next ≤ i) (ei : ads₂[i]? = some a) : a ∉ ads := fun hm => by
  obtain ⟨j, hj⟩ := List.getElem?_of_mem hm
  cases nodup_get S₂.nd (X.get hj) ei
  exact Nat.lt_irrefl _ (Nat.lt_of_lt_of_le (List.getElem?_eq_some_iff.mp hj).1 (S.len ▸ hi))
theorem idm_full {ads ads₂ : List Addr} {ρ : Loc} {σ s2 σ' : Sto} {h h₂ : Heap} {N k c0 c1 d0 d1 : Nat} {q r : Int} {l : List AV} {v : AV} {y : Value} (S : St W cx ads ρ σ h) (S₂ : St W cx ads₂ ρ s2 h₂) (X : Ext ads ads₂) (D : DmP N σ s2 k q r c0 c1) (g0 : σ.get 0 = some (.fn 0 [0, d0])) (g1 : σ.get 1 = some (.fn 3 [1, d1]))
    (hor : ∀ ads₁ o, ORw W ads₂ (.tup [.lin 0 q, .lin 0 r]) o → ORw W ads₁ (.tup l) o) (hy : VR W.q ads₂ (.ref k) y) (hd : newTup l σ = some (v, σ')) :
    ∃ ads'', Ext ads ads'' ∧ VR W.q ads'' v y ∧ St W cx ads'' ρ σ' h₂ := by
  obtain ⟨rfl, n1, gt⟩ := newTup_is hd
  obtain ⟨ak, ek, rfl⟩ := hy
  obtain ⟨ak', ot, ek', hot, ho⟩ := S₂.obj k _ D.tup
  cases Option.some.inj (ek.symm.trans ek')
  have here : (ads ++ [ak])[σ.next]? = some ak := by simp only [S.len]; simp
  refine ⟨ads ++ [ak], ⟨[ak], rfl⟩, ⟨ak, here, rfl⟩, S.less S₂ X (fun a ha => ?_) (by simp) (by simp only [n1, S.len, List.length_append]; rfl) fun j ao ej => ?_⟩
  · cases List.mem_singleton.mp ha
    exact ⟨List.mem_of_getElem? ek, S.nold S₂ X D.new ek⟩
  rw [gt j] at ej
  split at ej
  · rename_i hj
    subst hj
    cases Option.some.inj ej
    exact .inr ⟨ak, ot, here, hot, hor _ _ ho⟩
  · refine .inl ⟨ej, ?_⟩
    have hlt := S.wf.lt ej
    match j, ej, hlt with
    | 0, ej, _ =>
      simp only [← ej, g0]
      rcases D.o0 with ⟨_, q⟩ | q
      · cases Option.some.inj (g0.symm.trans q)
      · simp only [D.t0, ← q, g0]
    | 1, ej, _ =>
      simp only [← ej, g1]
      rcases D.o1 with ⟨_, q⟩ | q
      · cases Option.some.inj (g1.symm.trans q)
      · simp only [D.t1, ← q, g1]
    | j + 2, ej, hlt => exact (D.old _ hlt (by lia) (by lia)).trans (ej)
theorem idm_empty {ads ads₂ : List Addr} {ρ : Loc} {σ σ₄ s2 σ' : Sto} {h h₂ : Heap} {N k c0 c1 d0 d1 : Nat} {q r : Int} {l : List AV} {v : AV} {y : Value} (S : St W cx ads ρ σ h) (S₂ : St W cx ads₂ ρ s2 h₂) (X : Ext ads ads₂) (D : DmP N σ s2 k q r c0 c1) (g0 : σ.get 0 = some (.fn 0 [0])) (g1 : σ.get 1 = some (.fn 3 [1]))
    (hor : ∀ ads₁ o, ORw W ads₂ (.tup [.lin 0 q, .lin 0 r]) o → ORw W ads₁ (.tup l) o) (hy : VR W.q ads₂ (.ref k) y) (hf : fillT σ = some (d0, d1, σ₄)) (hd : newTup l σ₄ = some (v, σ')) :
    ∃ ads'', Ext ads ads'' ∧ VR W.q ads'' v y ∧ St W cx ads'' ρ σ' h₂ := by
  obtain ⟨rfl, n1, gt⟩ := newTup_is hd
  obtain ⟨rfl, rfl, n2, gf⟩ := fillT_is hf
  obtain ⟨ak, ek, rfl⟩ := hy
  obtain ⟨ak', ot, ek', hot, ho⟩ := S₂.obj k _ D.tup
  cases Option.some.inj (ek.symm.trans ek')
  obtain ⟨a0, oc0, ec0, hoc0, hor0⟩ := S₂.obj c0 _ D.d0
  obtain ⟨a1, oc1, ec1, hoc1, hor1⟩ := S₂.obj c1 _ D.d1
  obtain ⟨t0, ot0, et0, hot0, hor2⟩ := S₂.obj 0 _ D.t0
  obtain ⟨t1, ot1, et1, hot1, hor3⟩ := S₂.obj 1 _ D.t1
  have hc0 : σ.next ≤ c0 := by
    rcases D.o0 with ⟨q, _⟩ | q
    · exact q
    · cases Option.some.inj (g0.symm.trans q)
  have hc1 : σ.next ≤ c1 := by
    rcases D.o1 with ⟨q, _⟩ | q
    · exact q
    · cases Option.some.inj (g1.symm.trans q)
  have ne01 := S₂.neq ec0 ec1 D.d0 D.d1 (fun h => by injection h with h; exact absurd h (by decide))
  have ne0k := S₂.neq ec0 ek D.d0 D.tup (fun h => nomatch h)
  have ne1k := S₂.neq ec1 ek D.d1 D.tup (fun h => nomatch h)
  have XM : Ext ads (ads ++ [a0, a1, ak]) := ⟨_, rfl⟩
  have p0 : (ads ++ [a0, a1, ak])[σ.next]? = some a0 := by simp only [S.len]; simp
  have p1 : (ads ++ [a0, a1, ak])[σ.next + 1]? = some a1 := by rw [S.len, List.getElem?_append_right (by lia)]; simp
  have p2 : (ads ++ [a0, a1, ak])[σ₄.next]? = some ak := by rw [n2, S.len, List.getElem?_append_right (by lia)]; simp
  have b0 : (ads ++ [a0, a1, ak])[0]? = some t0 := by
    obtain ⟨b, _, hb, _⟩ := S.obj 0 _ g0
    cases Option.some.inj ((X.get hb).symm.trans et0)
    exact XM.get hb
  have b1 : (ads ++ [a0, a1, ak])[1]? = some t1 := by
    obtain ⟨b, _, hb, _⟩ := S.obj 1 _ g1
    cases Option.some.inj ((X.get hb).symm.trans et1)
    exact XM.get hb
  refine ⟨ads ++ [a0, a1, ak], XM, ⟨ak, p2, rfl⟩, S.less S₂ X (fun a ha => ?_) (by simp [ne01, ne0k, ne1k]) (by simp only [n1, n2, S.len, List.length_append]; rfl) fun j ao ej => ?_⟩
  · simp only [List.mem_cons, List.not_mem_nil, or_false] at ha
    rcases ha with rfl | rfl | rfl
    · exact ⟨List.mem_of_getElem? ec0, S.nold S₂ X hc0 ec0⟩
    · exact ⟨List.mem_of_getElem? ec1, S.nold S₂ X hc1 ec1⟩
    · exact ⟨List.mem_of_getElem? ek, S.nold S₂ X D.new ek⟩
  rw [gt j, gf j] at ej
  split at ej
  · rename_i q
    cases q
    cases Option.some.inj ej
    exact .inr ⟨ak, ot, p2, hot, hor _ _ ho⟩
  split at ej
  · rename_i q
    cases q
    cases Option.some.inj ej
    exact .inr ⟨t1, ot1, b1, hot1, OR.fn2 hor3 et1 ec1 b1 p1⟩
  rename_i q1
  split at ej
  · rename_i q
    subst q
    cases Option.some.inj ej
    exact .inr ⟨a1, oc1, p1, hoc1, OR.fn0 hor1⟩
  split at ej
  · rename_i q
    subst q
    cases Option.some.inj ej
    exact .inr ⟨t0, ot0, b0, hot0, OR.fn2 hor2 et0 ec0 b0 p0⟩
  rename_i q0
  split at ej
  · rename_i q
    subst q
    cases Option.some.inj ej
    exact .inr ⟨a0, oc0, p0, hoc0, OR.fn0 hor0⟩
  · exact .inl ⟨ej, by exact (D.old j (S.wf.lt ej) q0 q1).trans (ej)⟩
theorem okIdm_is {a b c d : Int} (h : okIdm a b c d = true) : c = 0 ∧ d ≠ 0 ∧ leB 1000 d = true ∧ Int.emod a d = 0 ∧ leB 1000 a = true ∧ leB 268435456 b = true := by
  simp only [okIdm, Bool.and_eq_true, Bool.not_eq_true'] at h
  exact ⟨isZ_is h.1.1.1.1.1, isZ_not h.1.1.1.1.2, h.1.1.1.2, isZ_is h.1.1.2, h.1.2, h.2⟩
theorem leB_is {n : Nat} {x : Int} (h : leB n x = true) : -(n : Int) ≤ x ∧ x ≤ n := by
  unfold leB at h
  split at h
  · rename_i m
    have := Nat.le_of_ble_eq_true h
    show -(n : Int) ≤ (m : Int) ∧ (m : Int) ≤ n
    lia
  · rename_i m
    have : m < n := Nat.le_of_ble_eq_true h
    have e : Int.negSucc m = -((m : Int) + 1) := rfl
    simp only [e]; lia
theorem lin_bound {q a b : Int} (hq : 0 ≤ q ∧ q ≤ 1048576) (ha : leB 1000 a = true) (hb : leB 268435456 b = true) : -2147483648 < a * q + b ∧ a * q + b < 2147483648 := by
  have h1 := leB_is ha
  have h2 := leB_is hb
  have h3 : a * q ≤ 1000 * 1048576 := Int.mul_le_mul (by lia) hq.2 hq.1 (by decide)
  have h4 : (-a) * q ≤ 1000 * 1048576 := Int.mul_le_mul (by lia) hq.2 hq.1 (by decide)
  rw [Int.neg_mul] at h4
  lia
theorem SF_idm {f : Value} {n : Nat} (h : SF W n f F_idm3) : SF W n f F_int_divmod := by
  refine SF.re h fun cx ads vs xs ρ σ v σ' hp O hv S hd => ?_
  dsimp only [F_int_divmod, f2] at hd
  split at hd
  · rename_i av bv
    obtain ⟨x, y, rfl, hx, hy⟩ := VRs.two hv
    dsimp only [gIdm] at hd
    split at hd
    · rename_i a b c d
      split at hd
      · rename_i hok
        obtain ⟨hok, hn⟩ := (Bool.and_eq_true _ _).mp hok
        obtain ⟨rfl, hdn, ld, zm, la, lb⟩ := okIdm_is hok
        have hdl := leB_is ld
        have hz := lin_bound O.hq la lb
        have hv0 : VRs W.q ads [.lin 0 (a * W.q + b), .lin 0 d] [x, y] := by
          obtain ⟨t, hqq⟩ := hx; subst hqq
          exact ⟨int0_VR, hy, trivial⟩
        have hor : ∀ ads₂ ads₁ o, ORw W ads₂ (.tup [.lin 0 (Int.ediv a d * W.q + Int.fdiv b d), .lin 0 (Int.fmod b d)]) o → ORw W ads₁ (.tup [.lin (Int.ediv a d) (Int.fdiv b d), .lin 0 (Int.fmod b d)]) o := fun _ _ _ => OR.tup2
        have main : ∀ (T0 : TabE σ 0 0 1) (T1 : TabE σ 1 3 4), ∃ s2 k c0 c1, F_idm3 [.lin 0 (a * W.q + b), .lin 0 d] σ = some (.ref k, s2) ∧ DmP 102 σ s2 k (Int.ediv a d * W.q + Int.fdiv b d) (Int.fmod b d) c0 c1 := fun T0 T1 => by
          obtain ⟨s2, k, c0, c1, e, D⟩ := idm_spec (a * W.q + b) d hdn (by lia) (by lia) (by lia) (by lia) σ S.wf (Nat.le_of_ble_eq_true hn) T0 T1
          rw [fdiv_lin (q := W.q) (b := b) hdn zm, fmod_lin (q := W.q) (b := b) zm] at D
          exact ⟨s2, k, c0, c1, e, D⟩
        split at hd
        · rename_i ht
          obtain ⟨h0, h1⟩ := (Bool.and_eq_true _ _).mp ht
          obtain ⟨h0, h0c⟩ := (Bool.and_eq_true _ _).mp h0
          obtain ⟨h1, h1c⟩ := (Bool.and_eq_true _ _).mp h1
          obtain ⟨s2, k, c0, c1, e, D⟩ := main (.inr ⟨_, isFnO_is h0, isFnO_is h0c⟩) (.inr ⟨_, isFnO_is h1, isFnO_is h1c⟩)
          exact ⟨_, σ, _, s2, hv0, S, e, fun ads₂ y₂ h₂ X r₂ S₂ => idm_full S S₂ X D (isFnO_is h0) (isFnO_is h1) (hor _) r₂ hd⟩
        · split at hd
          · rename_i ht
            obtain ⟨h0, h1⟩ := (Bool.and_eq_true _ _).mp ht
            split at hd
            · rename_i d0 d1 σ₄ hf
              obtain ⟨s2, k, c0, c1, e, D⟩ := main (.inl (isFnO_is h0)) (.inl (isFnO_is h1))
              exact ⟨_, σ, _, s2, hv0, S, e, fun ads₂ y₂ h₂ X r₂ S₂ => idm_empty S S₂ X D (isFnO_is h0) (isFnO_is h1) (hor _) r₂ hf hd⟩
            · exact nos hd
          · exact nos hd
      · exact nos hd
    · exact nos hd
  · exact nos hd
end

theorem octsGo_fuel : ∀ (f g n : Nat) (acc : List Nat), n < 64 ^ f → n < 64 ^ g → octsGo f n acc = octsGo g n acc
  | 0, 0, _, _, _, _ => rfl
  | 0, g + 1, n, acc, h, _ => by
    have : n = 0 := by simpa using h
    subst this
    simp [octsGo]
  | f + 1, 0, n, acc, _, h => by
    have : n = 0 := by simpa using h
    subst this
    simp [octsGo]
  | f + 1, g + 1, n, acc, h1, h2 => by
    dsimp only [octsGo]
    split
    · exact octsGo_fuel f g _ _ (by rw [Nat.pow_succ] at h1; lia) (by rw [Nat.pow_succ] at h2; lia)
    · rfl
theorem oct_eq : D_law_octets = seqM (bnd (bnd (bnd (bnd (dLoc 77) fun a => bnd (ret (.lin 0 64)) fun b => fMod a b) fun v => bnd (ret []) fun vs => ret (v :: vs)) (apF F_law_sign)) fun v => bnd (putL 78 v) fun _ => ret .next) (seqM (whileM octT octB 400) (seqM (bnd (dLoc 78) fun v => ret (.ret v)) (ret .next))) := rfl
theorem oct_spec (n : Nat) (h : n < 2147483648) (σ : Sto) : Fw_law_octets [.lin 0 (n : Int)] σ = some (.str (octsOf n), σ) := by
  have hp : (2147483648 : Nat) ≤ 64 ^ 6 := by decide
  have h399 : n < 64 ^ 399 := Nat.lt_of_lt_of_le (Nat.lt_of_lt_of_le h hp) (Nat.pow_le_pow_right (by decide) (by decide))
  have h64 : n < 64 ^ 64 := Nat.lt_of_lt_of_le (Nat.lt_of_lt_of_le h hp) (Nat.pow_le_pow_right (by decide) (by decide))
  obtain ⟨ρ', r1, r2⟩ := oct_loop 399 n [signOf (n % 64)] σ h399 (by simp)
  have s1 := sign_spec (n % 64) (by lia) σ
  have g2 : ∀ ρ, fMod (.lin 0 (n : Int)) (.lin 0 64) ρ σ = some (.lin 0 ((n % 64 : Nat) : Int), ρ, σ) := fun ρ => by
    show some (AV.lin 0 (Int.fmod (n : Int) 64), ρ, σ) = _
    rw [fmod64]
  simp only [Fw_law_octets, defF, zipN, oct_eq, seqM, bnd, dLoc, look, Nat.beq, ret, g2, apF, s1, putL, lput, r1, r2, outF]
  rw [octsGo_fuel 399 64 n _ h399 h64]
  rfl
theorem nnB_is {n : Nat} {x : Int} (h : nnB n x = true) : 0 ≤ x ∧ x ≤ n := by
  unfold nnB at h
  split at h
  · rename_i m
    have := Nat.le_of_ble_eq_true h
    show 0 ≤ (m : Int) ∧ (m : Int) ≤ n
    lia
  · injection h
section
variable {W : Wo} {cx : Cx}
theorem nn_bound {q a b : Int} (hq : 0 ≤ q ∧ q ≤ 1048576) (ha : nnB 1000 a = true) (hb : nnB 268435456 b = true) : 0 ≤ a * q + b ∧ a * q + b < 2147483648 := by
  have h1 := nnB_is ha
  have h2 := nnB_is hb
  have h3 : a * q ≤ 1000 * 1048576 := Int.mul_le_mul (by lia) hq.2 hq.1 (by decide)
  have h4 : 0 ≤ a * q := Int.mul_nonneg h1.1 hq.1
  lia
theorem SF_oct {f : Value} {n : Nat} (h : SF W n f Fw_law_octets) : SF W n f F_law_octets := by
  refine SF.re h fun cx ads vs xs ρ σ v σ' hp O hv S hd => ?_
  unfold F_law_octets f1 at hd
  split at hd
  · rename_i av
    obtain ⟨x, rfl, hx⟩ := VRs.one hv
    unfold gOct at hd
    split at hd
    · rename_i a b
      split at hd
      · rename_i la lb
        cases Option.some.inj hd
        have hz := nn_bound O.hq la lb
        have ez : a * W.q + b = (((a * W.q + b).toNat : Nat) : Int) := by lia
        refine ⟨[.lin 0 (a * W.q + b)], σ, .str (octsOf (a * W.q + b).toNat), σ, ?_, S, ?_, fun ads₂ y h₂ X r S₂ => ⟨ads₂, X, ?_, S₂⟩⟩
        · obtain ⟨t, rfl⟩ := hx
          exact ⟨int0_VR, trivial⟩
        · have := oct_spec (a * W.q + b).toNat (by lia) σ
          rw [← ez] at this
          exact this
        · obtain ⟨t, rfl⟩ := r
          exact ⟨t, by simp [denT, Pc.den]⟩
      · exact nos hd
    · exact nos hd
  · exact nos hd
end
/-! _law_cells -/
noncomputable def celB (la : Nat) (zs : List Int) : Mo Fl := (seqM (bnd (dLoc 59) fun a => bnd (bnd (dLoc 50) fun a => bnd (ret (.lin 0 4)) fun b => fMod a b) fun i => bnd (fGetL a i) fun old => bnd (bnd (dLoc 58) fun a => bnd (dLoc 50) fun i => fScrGet la zs a i) fun v => bnd (fIAdd old v) fun new => bnd (fSet a i new) fun _ => ret .next) (ret .next))
theorem cel_eq (la : Nat) (zs : List Int) : D_law_cells la zs = seqM (bnd (bnd (bnd (ret (.lin 0 1)) fun v => bnd (bnd (ret (.lin 0 1)) fun v => bnd (bnd (ret (.lin 0 5)) fun v => bnd (bnd (ret (.lin 0 37)) fun v => bnd (ret []) fun vs => ret (v :: vs)) fun vs => ret (v :: vs)) fun vs => ret (v :: vs)) fun vs => ret (v :: vs)) (fNew .list)) fun v => bnd (putL 59 v) fun _ => ret .next) (seqM (bnd (bnd (bnd (bnd (bnd (dLoc 58) (fScrLen la zs)) fun v => bnd (ret []) fun vs => ret (v :: vs)) (apF (f12 gRange1 gRange2))) dSrc) (forM (putL 50) (celB la zs) 400)) (seqM (bnd (dLoc 59) fun v => ret (.ret v)) (ret .next))) := rfl
theorem linL_len : ∀ zs, (linL zs).length = zs.length
  | [] => rfl
  | z :: r => by simp [linL, linL_len r]
theorem linL_get : ∀ (zs : List Int) (i : Nat), (linL zs)[i]? = (zs[i]?).map (AV.lin 0)
  | [], i => by simp [linL]
  | z :: r, 0 => by simp [linL]
  | z :: r, i + 1 => by simp [linL, linL_get r i]
theorem addAt_len : ∀ (zs : List Int) (i : Nat) (v : Int), (addAt zs i v).length = zs.length
  | [], _, _ => rfl
  | z :: r, 0, v => rfl
  | z :: r, i + 1, v => by simp [addAt, addAt_len r i v]
theorem cellsZ_len : ∀ (zs : List Int) (j : Nat) (cs : List Int), (cellsZ zs j cs).length = cs.length
  | [], _, _ => rfl
  | z :: r, j, cs => by simp only [cellsZ, cellsZ_len r, addAt_len]
theorem linL_add : ∀ (zs : List Int) (i : Nat) (v z : Int), zs[i]? = some z → linL (addAt zs i v) = (linL zs).set i (.lin 0 (z + v))
  | [], i, v, z, h => by simp at h
  | y :: r, 0, v, z, h => by simp at h; subst h; rfl
  | y :: r, i + 1, v, z, h => by
    simp only [addAt, linL, List.set_cons_succ]
    simp only [linL_add r i v z (by simpa using h)]
theorem scr_len {la : Nat} {zs : List Int} (hl : zs.length ≤ 63) (ρ : Loc) (σ : Sto) : fScrLen la zs (.wr (.ref la)) ρ σ = some (.lin 0 ((zs.length : Nat) : Int), ρ, σ) := by
  simp only [fScrLen, show Nat.beq la la = true from Nat.beq_refl la, Nat.ble_eq_true_of_le hl]
theorem scr_get {la : Nat} {zs : List Int} {j : Nat} {v : Int} (hj : j ≤ 1000000) (hv : zs[j]? = some v) (ρ : Loc) (σ : Sto) : fScrGet la zs (.wr (.ref la)) (.lin 0 (j : Int)) ρ σ = some (.lin 0 v, ρ, σ) := by
  simp only [fScrGet, show Nat.beq la la = true from Nat.beq_refl la, show isZ 0 = true from rfl, ixN_nat hj, hv]
theorem cel_loop (la n0 : Nat) (l : List Int) (hl : l.length ≤ 63) (hn0 : n0 < 1000000) : ∀ (m f j : Nat) (zs : List Int) (ρ : Loc) (σ : Sto), j + m = l.length → m < f → zs.length = 4 →
    look ρ.loc 58 = some (.wr (.ref la)) → look ρ.loc 59 = some (.ref n0) → σ.get n0 = some (.list (linL zs)) →
    ∃ ρ' σ', forM (putL 50) (celB la l) f (.rng 0 (j : Int) m) ρ σ = some (.next, ρ', σ') ∧ look ρ'.loc 59 = some (.ref n0) ∧ σ'.get n0 = some (.list (linL (cellsZ (l.drop j) j zs))) ∧ σ'.next = σ.next ∧ ∀ i, i ≠ n0 → σ'.get i = σ.get i
  | 0, 0, _, _, _, _, _, h, _, _, _, _ => absurd h (by lia)
  | _ + 1, 0, _, _, _, _, _, h, _, _, _, _ => absurd h (by lia)
  | 0, f + 1, j, zs, ρ, σ, hj, hf, hz, h58, h59, hq => by
    rw [List.drop_eq_nil_of_le (by lia)]
    refine ⟨ρ, σ, ?_, h59, hq, rfl, fun _ _ => rfl⟩
    dsimp only [forM]
    simp only [nextS]
  | m + 1, f + 1, j, zs, ρ, σ, hj, hf, hz, h58, h59, hq => by
    have hjl : j < l.length := by lia
    simp only [List.drop_eq_getElem_cons hjl, cellsZ]
    have e1 : l[j]? = some l[j] := List.getElem?_eq_getElem hjl
    generalize l[j] = v at e1
    have hjm : j % 4 < zs.length := by lia
    obtain ⟨z, ez⟩ : ∃ z, zs[j % 4]? = some z := ⟨_, List.getElem?_eq_getElem hjm⟩
    obtain ⟨σ₁, p1, p2, p3⟩ := put_ok σ hn0 (.list ((linL zs).set (j % 4) (.lin 0 (z + v))))
    obtain ⟨ρ', σ', r1, r2, r4, r5, r6⟩ := cel_loop la n0 l hl hn0 m f (j + 1) (addAt zs (j % 4) v) ⟨lput ρ.loc 50 (.lin 0 (j : Int)), ρ.cel⟩ σ₁ (by lia) (by lia) (by rw [addAt_len]; exact hz)
      ((lk_ne (by decide)).trans h58) ((lk_ne (by decide)).trans h59) (by rw [p3, if_pos rfl, linL_add zs _ v z ez])
    refine ⟨ρ', σ', ?_, r2, r4, r5.trans p2, fun i hi => by exact (r6 i hi).trans ((ife (p3 _) hi))⟩
    simp only [← r1]
    have k50 : look (lput ρ.loc 50 (.lin 0 (j : Int))) 50 = some (.lin 0 (j : Int)) := lk_eq
    have k58 : look (lput ρ.loc 50 (.lin 0 (j : Int))) 58 = some (.wr (.ref la)) := (lk_ne (by decide)).trans h58
    have k59 : look (lput ρ.loc 50 (.lin 0 (j : Int))) 59 = some (.ref n0) := (lk_ne (by decide)).trans h59
    have g2 : ∀ ρ, fMod (.lin 0 (j : Int)) (.lin 0 4) ρ σ = some (.lin 0 ((j % 4 : Nat) : Int), ρ, σ) := fun ρ => by
      show some (AV.lin 0 (Int.fmod (j : Int) 4), ρ, σ) = _
      rw [Int.fmod_eq_emod_of_nonneg _ (by decide)]
      rfl
    have g3 : ∀ ρ, fGetL (.ref n0) (.lin 0 ((j % 4 : Nat) : Int)) ρ σ = some (.lin 0 z, ρ, σ) := fun ρ => by
      dsimp only [fGetL]
      simp only [ixN_nat (show j % 4 ≤ 1000000 by lia), show isZ 0 = true from rfl, hq, linL_get, ez, Option.map_some]
    have g4 : ∀ ρ, fScrGet la l (.wr (.ref la)) (.lin 0 (j : Int)) ρ σ = some (.lin 0 v, ρ, σ) := fun ρ => scr_get (by lia) e1 ρ σ
    have g5 : ∀ ρ, fSet (.ref n0) (.lin 0 ((j % 4 : Nat) : Int)) (.lin 0 (z + v)) ρ σ = some ((), ρ, σ₁) := fun ρ => nSet hq (by simp only [linL_len]; lia) (by simp only [linL_len]; lia) p1
    have hb : celB la l ⟨lput ρ.loc 50 (.lin 0 (j : Int)), ρ.cel⟩ σ = some (.next, ⟨lput ρ.loc 50 (.lin 0 (j : Int)), ρ.cel⟩, σ₁) := by
      simp only [celB, seqM, bnd, dLoc, k59, k50, ret, g2, g3, k58, g4, fIAdd, Int.add_zero, g5]
    rw [forM.eq_2]
    simp only [nextS, bnd, putL, hb]
    rfl
section
variable {W : Wo} {cx : Cx}
inductive CelR (la : Nat) (l : List Int) (σ : Sto) : Prop
  | mk (σ' : Sto) (h0 : Fw_law_cells la l [.wr (.ref la)] σ = some (.ref σ.next, σ')) (h1 : σ'.next = σ.next + 2) (h2 : σ'.get σ.next = some (.list (linL (cellsZ l 0 [1, 1, 5, 37])))) (h3 : (∀ j, j < σ.next → σ'.get j = σ.get j)) (h4 : σ'.get (σ.next + 1) = some (.rng 0 0 l.length)) : CelR la l σ
theorem cel_spec (la : Nat) (l : List Int) (hl : l.length ≤ 63) (σ : Sto) (w : Wf σ) (hn : σ.next ≤ 900000) :
    CelR la l σ := by
  obtain ⟨s1, a1, a2, a3⟩ := new_ok σ (by lia) (.list [.lin 0 1, .lin 0 1, .lin 0 5, .lin 0 37])
  obtain ⟨s2, b1, b2, b3⟩ := new_ok s1 (by lia) (.rng 0 0 l.length)
  obtain ⟨ρ', σ', r1, r2, r4, r5, r6⟩ := cel_loop la σ.next l hl (by lia) l.length 400 0 [1, 1, 5, 37] ⟨[(58, .wr (.ref la)), (59, .ref σ.next)], []⟩ s2 (by lia) (by lia) rfl rfl rfl
    (by rw [b3, if_neg (by lia), a3, if_pos rfl]; rfl)
  refine ⟨σ', ?_, by rw [r5, b2, a2], by rw [r4, List.drop_zero], fun j hj => by exact (r6 j (by lia)).trans ((ife (b3 _) (by lia)).trans ((ife (a3 _) (by lia)))), by exact (r6 _ (by lia)).trans ((ifp (b3 _) (by lia)))⟩
  have hr : gRange1 (.lin 0 ((l.length : Nat) : Int)) s1 = some (.ref s1.next, s2) := by
    dsimp only [gRange1]
    simp only [show isZ 0 = true from rfl, ixN_nat (show l.length ≤ 1000000 by lia), b1]
  have hs : ∀ ρ, dSrc (.ref s1.next) ρ s2 = some (.rng 0 0 l.length, ρ, s2) := fun ρ => by
    dsimp only [dSrc]
    have : s2.get s1.next = some (.rng 0 0 l.length) := by exact (ifp (b3 _) rfl)
    simp only [this, show small 0 = true from rfl, show Nat.ble l.length 1000000 = true from Nat.ble_eq_true_of_le (by lia)]
  have r1' : forM (putL 50) (celB la l) 400 (.rng 0 0 l.length) ⟨[(58, .wr (.ref la)), (59, .ref σ.next)], []⟩ s2 = some (.next, ρ', σ') := r1
  simp only [Fw_law_cells, defF, zipN, cel_eq, seqM, bnd, dLoc, look, Nat.beq, ret, fNew, List.length_cons, List.length_nil, show Nat.ble (0 + 1 + 1 + 1 + 1) 1000000 = true from rfl, a1, putL, lput, apF, scr_len hl, f12, hr, hs, r1', r2, outF]
theorem SCx_cel {f : Value} {n la : Nat} {zs : List Int} (h : SCx W (PrS la zs) n f (Fw_law_cells la zs)) : SCx W (PrS la zs) n f (F_law_cells la zs) := by
  refine SCx.re h fun cx ads vs xs ρ σ v σ' hp O hv S hd => ?_
  unfold F_law_cells f1 at hd
  split at hd
  · rename_i av
    unfold gCells at hd
    split at hd
    · rename_i x
      split at hd
      · rename_i hb hl hn
        cases Nat.eq_of_beq_eq_true hb
        split at hd
        · rename_i k' σ₁ en
          split at hd
          · rename_i k2 σ₂ en2
            cases Option.some.inj hd
            have N1 := Sto.new_get en
            have N2 := Sto.new_get en2
            obtain ⟨s2, e, e2, e3, e4, e5⟩ := cel_spec la zs (Nat.le_of_ble_eq_true hl) σ S.wf (Nat.le_of_ble_eq_true hn)
            refine ⟨_, σ, _, s2, hv, S, e, fun ads₂ y h₂ X r S₂ => ⟨ads₂, X, ?_, S₂.re (fun k v e => ⟨v, e, fun _ h => h⟩) (fun _ _ e => e) ?_ fun j ao ej => ?_⟩⟩
            · rw [(N1 0).1]; exact r
            · simp only [(N2 0).2.1, (N1 0).2.1, e2]
            · rw [(N2 j).2.2] at ej
              refine (Classical.em (j = k2)).elim (fun q2 => ?_) fun q2 => ?_
              · replace ej := (if_pos q2).symm.trans ej
                cases Option.some.inj ej
                exact ⟨_, by simp only [q2, (N2 0).1, (N1 0).2.1]; exact e5, fun _ h => h⟩
              · rw [if_neg q2, (N1 j).2.2] at ej
                refine (Classical.em (j = k')).elim (fun q1 => ?_) fun q1 => ?_
                · replace ej := (if_pos q1).symm.trans ej
                  cases Option.some.inj ej
                  exact ⟨_, by simp only [q1, (N1 0).1]; exact e3, fun _ h => h⟩
                · replace ej := (if_neg q1).symm.trans ej
                  exact ⟨ao, by rw [e4 j (S.wf.lt ej)]; exact ej, fun _ h => h⟩
          · exact nos hd
        · exact nos hd
      · exact nos hd
    · exact nos hd
  · exact nos hd
end

theorem sign63 : ∀ o : Nat, o < 128 → signOf o &&& 63 = o % 64 ∧ (signOf o &&& 64 = if o < 64 then 0 else 64) := by decide +kernel
theorem octs_shape : ∀ (f n : Nat) (acc : List Nat), n < 64 ^ f → ∃ hs : List Nat, octsGo f n acc = hs.map (fun d => signOf (64 + d)) ++ acc ∧ (∀ d ∈ hs, d < 64) ∧ hs.foldl (fun v d => v * 64 + d) 0 = n / 64 ∧ hs.length ≤ f
  | 0, n, acc, h => by
    have : n = 0 := by simpa using h
    subst this
    exact ⟨[], by simp [octsGo], (fun _ h => nomatch h), rfl, Nat.le_refl _⟩
  | f + 1, n, acc, h => by
    dsimp only [octsGo]
    refine (Classical.em (n > 63)).elim (fun h1 => ?_) fun h1 => ?_
    · rw [if_pos h1]
      obtain ⟨hs, e1, e2, e3, e4⟩ := octs_shape f (n / 64) (signOf (64 + n / 64 % 64) :: acc) (by rw [Nat.pow_succ] at h; lia)
      refine ⟨hs ++ [n / 64 % 64], ?_, ?_, ?_, by simp; lia⟩
      · rw [e1]; simp
      · intro d hd
        rcases List.mem_append.mp hd with hd | hd
        · exact e2 d hd
        · simp at hd; lia
      · simp only [List.foldl_append, e3]
        simp only [List.foldl_cons, List.foldl_nil]
        lia
    · rw [if_neg h1]
      exact ⟨[], by rfl, (fun _ h => nomatch h), by simp only [List.foldl_nil]; lia, Nat.zero_le _⟩
theorem and63 {b : Nat} {ρ : Loc} {σ : Sto} : fAnd (.lin 0 (b : Int)) (.lin 0 63) ρ σ = some (.lin 0 ((b &&& 63 : Nat) : Int), ρ, σ) := nAnd (b := 63)
theorem and64 {b : Nat} {ρ : Loc} {σ : Sto} : fAnd (.lin 0 (b : Int)) (.lin 0 64) ρ σ = some (.lin 0 ((b &&& 64 : Nat) : Int), ρ, σ) := nAnd (b := 64)
theorem shl6 {b : Nat} {ρ : Loc} {σ : Sto} (h : b < 4294967296) : fShl (.lin 0 (b : Int)) (.lin 0 6) ρ σ = some (.lin 0 ((b * 64 : Nat) : Int), ρ, σ) := nShl (b := 6) h (by decide)
theorem or_add (v d : Nat) (h : d < 64) : v * 64 ||| d = v * 64 + d := by
  have := Nat.shiftLeft_add_eq_or_of_lt (show d < 2 ^ 6 from h) v
  rw [Nat.shiftLeft_eq] at this
  exact this.symm
noncomputable def varT : Mo Bool := (bnd (bnd (dLoc 4) fun a => bnd (ret (.lin 0 64)) fun b => fAnd a b) fTru)
noncomputable def varB : Mo Fl := (seqM (bnd (dLoc 44) fun a => bnd (ret (.lin 0 6)) fun b => bnd (fShl a b) fun c => bnd (putL 44 c) fun _ => ret .next) (seqM (bnd (bnd (bnd (dLoc 43) fun v => bnd (ret []) fun vs => ret (v :: vs)) (apF (f1 gNext))) fun v => bnd (putL 4 v) fun _ => ret .next) (seqM (bnd (dLoc 44) fun a => bnd (bnd (dLoc 4) fun a => bnd (ret (.lin 0 63)) fun b => fAnd a b) fun b => bnd (fOr a b) fun c => bnd (putL 44 c) fun _ => ret .next) (ret .next))))
theorem var_eq : D_parse_varint = seqM (bnd (bnd (bnd (dLoc 43) fun v => bnd (ret []) fun vs => ret (v :: vs)) (apF (f1 gNext))) fun v => bnd (putL 4 v) fun _ => ret .next) (seqM (bnd (bnd (dLoc 4) fun a => bnd (ret (.lin 0 63)) fun b => fAnd a b) fun v => bnd (putL 44 v) fun _ => ret .next) (seqM (whileM varT varB 400) (seqM (bnd (dLoc 44) fun v => ret (.ret v)) (ret .next)))) := rfl
noncomputable def itemN (vs : List AV) (i : Nat) (ns : List Nat) : Prop := ∀ j (h : j < ns.length), vs[i + j]? = some (.lin 0 ((ns[j] : Nat) : Int))
theorem itemN.tail {vs : List AV} {i n : Nat} {ns : List Nat} (h : itemN vs i (n :: ns)) : vs[i]? = some (.lin 0 (n : Int)) ∧ itemN vs (i + 1) ns := by
  refine ⟨by have := h 0 (by simp); simp only [Nat.add_zero] at this; exact this, fun j hj => ?_⟩
  have := h (j + 1) (by simpa using hj)
  rw [show i + 1 + j = i + (j + 1) by lia]
  exact this
theorem foldl_ge : ∀ (hs : List Nat) (v : Nat), v ≤ hs.foldl (fun v d => v * 64 + d) v
  | [], v => Nat.le_refl _
  | d :: hs, v => by
    have := foldl_ge hs (v * 64 + d)
    simp only [List.foldl_cons]
    lia
theorem nNext {k l i : Nat} {vs : List AV} {v : AV} {σ σ' : Sto} (e1 : σ.get k = some (.liter l i)) (e2 : σ.get l = some (.list vs)) (e3 : vs[i]? = some v) (e4 : σ.put k (.liter l (i + 1)) = some σ') : gNext (.ref k) σ = some (v, σ') := by
  dsimp only [gNext]; simp only [e1, e2, e3, e4]
inductive VarL (k l last : Nat) (hs : List Nat) (f v d i : Nat) (σ : Sto) : Prop
  | mk (ρ' : Loc) (σ' : Sto) (r1 : whileM varT varB f ⟨[(43, .ref k), (4, .lin 0 ((signOf (64 + d) : Nat) : Int)), (44, .lin 0 (v : Int))], []⟩ σ = some (.next, ρ', σ')) (r2 : look ρ'.loc 44 = some (.lin 0 ((hs.foldl (fun v d => v * 64 + d) v * 64 + last : Nat) : Int))) (r3 : σ'.next = σ.next) (r4 : σ'.get k = some (.liter l (i + hs.length + 1))) (r5 : ∀ j, j ≠ k → σ'.get j = σ.get j) : VarL k l last hs f v d i σ
theorem var_loop (k l : Nat) (vs : List AV) (last : Nat) (hla : last < 64) (hk : k < 1000000) (hne : l ≠ k) : ∀ (hs : List Nat) (f v d i : Nat) (σ : Sto), hs.length + 2 < f → (∀ d ∈ hs, d < 64) → d < 64 → hs.foldl (fun v d => v * 64 + d) v < 33554432 →
    itemN vs i (hs.map (fun d => signOf (64 + d)) ++ [signOf last]) → σ.get k = some (.liter l i) → σ.get l = some (.list vs) →
    VarL k l last hs f v d i σ
  | hs, 0, _, _, _, _, h, _, _, _, _, _, _ => absurd h (by lia)
  | hs, f + 1, v, d, i, σ, hf, hh, hd, hv, hi, hk1, hl1 => by
    have hs64 := (sign63 (64 + d) (by lia)).2
    rw [if_neg (by lia)] at hs64
    have hv0 := foldl_ge hs v
    have t1 : ∀ (b v : Nat) (σ : Sto), varT ⟨[(43, .ref k), (4, .lin 0 (b : Int)), (44, .lin 0 (v : Int))], []⟩ σ = some (!isZ ((b &&& 64 : Nat) : Int), ⟨[(43, .ref k), (4, .lin 0 (b : Int)), (44, .lin 0 (v : Int))], []⟩, σ) := fun b v σ => by
      simp only [varT, bnd, dLoc, look, Nat.beq, ret, and64, fTru, show isZ 0 = true from rfl]
    have t2 := t1 (signOf (64 + d)) v σ
    rw [hs64] at t2
    have step : ∀ (x : Nat) (σ₁ : Sto), x < 256 → x &&& 63 < 64 → vs[i]? = some (.lin 0 (x : Int)) → σ.put k (.liter l (i + 1)) = some σ₁ → varB ⟨[(43, .ref k), (4, .lin 0 ((signOf (64 + d) : Nat) : Int)), (44, .lin 0 (v : Int))], []⟩ σ = some (.next, ⟨[(43, .ref k), (4, .lin 0 (x : Int)), (44, .lin 0 ((v * 64 + (x &&& 63) : Nat) : Int))], []⟩, σ₁) := fun x σ₁ hx hx2 e3 e4 => by
      have hn := nNext hk1 hl1 e3 e4
      have hs6 : ∀ ρ σ, fShl (.lin 0 (v : Int)) (.lin 0 6) ρ σ = some (.lin 0 ((v * 64 : Nat) : Int), ρ, σ) := fun ρ σ => shl6 (by lia)
      simp only [varB, seqM, bnd, dLoc, look, Nat.beq, ret, hs6, putL, lput, apF, f1, hn, and63, nOr, or_add v _ hx2]
    cases hs with
    | nil =>
      obtain ⟨e3, _⟩ := itemN.tail hi
      obtain ⟨σ₁, p1, p2, p3⟩ := put_ok σ hk (.liter l (i + 1))
      have hl63 := sign63 last (by lia)
      have hx63 : signOf last &&& 63 = last := by rw [hl63.1]; lia
      rw [if_pos hla] at hl63
      have st := step (signOf last) σ₁ (by dsimp only [signOf]; split <;> lia) (by lia) e3 p1
      rw [hx63] at st
      have t3 := t1 (signOf last) (v * 64 + last) σ₁
      rw [hl63.2] at t3
      cases f with
      | zero => simp at hf
      | succ f =>
        refine ⟨⟨[(43, .ref k), (4, .lin 0 ((signOf last : Nat) : Int)), (44, .lin 0 ((v * 64 + last : Nat) : Int))], []⟩, σ₁, ?_, rfl, p2, by rw [p3, if_pos rfl]; simp, fun j hj => by exact (ife (p3 _) hj)⟩
        rw [whileM.eq_2]
        simp only [bnd, t2, show isZ ((64 : Nat) : Int) = false from rfl, Bool.not_false, st]
        rw [whileM.eq_2]
        simp only [bnd, t3, show isZ ((0 : Nat) : Int) = true from rfl, Bool.not_true, ret]
    | cons d' hs =>
      obtain ⟨e3, hi'⟩ := itemN.tail hi
      obtain ⟨σ₁, p1, p2, p3⟩ := put_ok σ hk (.liter l (i + 1))
      have hd' := hh d' (List.mem_cons_self ..)
      have hl63 := sign63 (64 + d') (by lia)
      have hx63 : signOf (64 + d') &&& 63 = d' := by rw [hl63.1]; lia
      have st := step (signOf (64 + d')) σ₁ (by dsimp only [signOf]; split <;> lia) (by lia) e3 p1
      rw [hx63] at st
      obtain ⟨ρ', σ', r1, r2, r3, r4, r5⟩ := var_loop k l vs last hla hk hne hs f (v * 64 + d') d' (i + 1) σ₁ (by simp at hf; lia) (fun x hx => hh x (List.mem_cons_of_mem _ hx)) hd' hv hi' (by exact (ifp (p3 _) rfl)) (by exact (ife (p3 _) hne).trans (hl1))
      refine ⟨ρ', σ', ?_, r2, r3.trans p2, by rw [r4]; simp; lia, fun j hj => by exact (r5 j hj).trans ((ife (p3 _) hj))⟩
      rw [whileM.eq_2]
      simp only [bnd, t2, show isZ ((64 : Nat) : Int) = false from rfl, Bool.not_false, st]
      exact r1
theorem var_spec (k l i n : Nat) (vs : List AV) (hn : n < 2147483648) (σ : Sto) (hk : k < 1000000) (hne : l ≠ k) (h1 : σ.get k = some (.liter l i)) (h2 : σ.get l = some (.list vs)) (hi : itemN vs i (octsOf n)) :
    ∃ σ', Fw_parse_varint [.ref k] σ = some (.lin 0 (n : Int), σ') ∧ σ'.next = σ.next ∧ σ'.get k = some (.liter l (i + (octsOf n).length)) ∧ ∀ j, j ≠ k → σ'.get j = σ.get j := by
  have hp : n < 64 ^ 64 := Nat.lt_of_lt_of_le hn (Nat.le_trans (show (2147483648 : Nat) ≤ 64 ^ 6 by decide) (Nat.pow_le_pow_right (by decide) (by decide)))
  obtain ⟨hs, s1, s2, s3, s4⟩ := octs_shape 64 n [signOf (n % 64)] hp
  have eo : octsOf n = hs.map (fun d => signOf (64 + d)) ++ [signOf (n % 64)] := s1
  rw [eo] at hi ⊢
  have hla : n % 64 < 64 := by lia
  obtain ⟨σ₁, p1, p2, p3⟩ := put_ok σ hk (.liter l (i + 1))
  cases hs with
  | nil =>
    obtain ⟨e3, _⟩ := itemN.tail hi
    have hn64 : n / 64 = 0 := s3.symm
    have hl63 := sign63 (n % 64) (by lia)
    have hx63 : signOf (n % 64) &&& 63 = n := by rw [hl63.1]; lia
    rw [if_pos hla] at hl63
    have hnx := nNext h1 h2 e3 p1
    refine ⟨σ₁, ?_, p2, by rw [p3, if_pos rfl]; simp, fun j hj => by exact (ife (p3 _) hj)⟩
    simp only [Fw_parse_varint, defF, zipN, var_eq, seqM, bnd, dLoc, look, Nat.beq, ret, apF, f1, hnx, putL, lput, and63, hx63]
    rw [whileM.eq_2]
    simp only [varT, bnd, dLoc, look, Nat.beq, ret, and64, hl63.2, fTru, show isZ 0 = true from rfl, show isZ ((0 : Nat) : Int) = true from rfl, Bool.not_true, outF]
  | cons d hs =>
    obtain ⟨e3, hi'⟩ := itemN.tail hi
    have hd := s2 d (List.mem_cons_self ..)
    have hl63 := sign63 (64 + d) (by lia)
    have hx63 : signOf (64 + d) &&& 63 = d := by rw [hl63.1]; lia
    have hnx := nNext h1 h2 e3 p1
    have hval : hs.foldl (fun v d => v * 64 + d) d = n / 64 := by simp only [← s3]; simp
    obtain ⟨ρ', σ', r1, r2, r3, r4, r5⟩ := var_loop k l vs (n % 64) hla hk hne hs 400 d d (i + 1) σ₁ (by simp at s4; lia) (fun x hx => s2 x (List.mem_cons_of_mem _ hx)) hd (by rw [hval]; lia) hi' (by exact (ifp (p3 _) rfl)) (by exact (ife (p3 _) hne).trans (h2))
    have hfin : hs.foldl (fun v d => v * 64 + d) d * 64 + n % 64 = n := by rw [hval]; lia
    rw [hfin] at r2
    refine ⟨σ', ?_, r3.trans p2, by rw [r4]; simp; lia, fun j hj => by exact (r5 j hj).trans ((ife (p3 _) hj))⟩
    simp only [Fw_parse_varint, defF, zipN, var_eq, seqM, bnd, dLoc, look, Nat.beq, ret, apF, f1, hnx, putL, lput, and63, hx63, r1, r2, outF]

theorem dropP_den (q : Int) : ∀ (ps done rest : List Pc), dropP ps done = some rest → denT q ps = denT q done ++ denT q rest
  | ps, [], rest, h => by
    have : ps = rest := by cases ps with
      | nil => simpa [dropP] using h
      | cons p r => cases p <;> simpa [dropP] using h
    rw [this]; rfl
  | [], .oct _ _ :: _, _, h => by simp [dropP] at h
  | [], .lit _ :: _, _, h => by simp [dropP] at h
  | .lit _ :: _, .oct _ _ :: _, _, h => by simp [dropP] at h
  | .lit _ :: _, .lit _ :: _, _, h => by simp [dropP] at h
  | .oct _ _ :: _, .lit _ :: _, _, h => by simp [dropP] at h
  | .oct a b :: ps, .oct c d :: done, rest, h => by
    dsimp only [dropP] at h
    split at h
    · rename_i h1 h2
      cases intB_is h1; cases intB_is h2
      simp only [denT, dropP_den q ps done rest h, List.append_assoc]
    · exact nos h
section
variable {W : Wo} {cx : Cx}
theorem SF_var {f : Value} {n : Nat} (h : SF W n f Fw_parse_varint) : SF W n f F_parse_varint := by
  refine SF.re h fun cx ads vs xs ρ σ v σ' hp O hv S hd => ?_
  unfold F_parse_varint f1 at hd
  split at hd
  · rename_i av
    dsimp only [gVar] at hd
    split at hd
    · rename_i k
      split at hd
      · rename_i l done ek
        split at hd
        · rename_i ps el
          split at hd
          · rename_i a b rest ed
            split at hd
            · rename_i σ₃ la lb hl ep
              cases hd
              have hl1 : l < 1000000 := Nat.le_of_ble_eq_true hl
              have hne : l ≠ k := fun q => by rw [q, ek] at el; cases el
              have hk1 : k < 1000000 := by
                unfold Sto.put at ep
                split at ep
                · rename_i hb; exact Nat.le_of_ble_eq_true hb
                · exact nos ep
              have PK := Sto.put_get ep
              have hz := nn_bound O.hq la lb
              have hden := dropP_den W.q ps done _ ed
              obtain ⟨s1, a1, a2, a3⟩ := put_ok σ hl1 (.list ((denT W.q ps).map lin0))
              obtain ⟨s2, b1, b2, b3⟩ := put_ok s1 hk1 (.liter l (denT W.q done).length)
              have S1 : St W cx ads ρ s1 hp := S.re1 el a1 fun o ho => OR.pints.mp ho
              have S2 : St W cx ads ρ s2 hp := S1.re1 (by rw [a3, if_neg (Ne.symm hne)]; exact ek) b1 fun o ho => OR.piter.mp ho
              have ez : a * W.q + b = (((a * W.q + b).toNat : Nat) : Int) := by lia
              obtain ⟨s3, e, e1, e2, e3⟩ := var_spec k l (denT W.q done).length (a * W.q + b).toNat ((denT W.q ps).map lin0) (by lia) s2 hk1 hne (by exact (ifp (b3 _) rfl)) (by exact (ife (b3 _) hne).trans ((ifp (a3 _) rfl))) (fun j hj => by
                rw [hden]
                simp only [denT, Pc.den]
                rw [List.getElem?_map, List.getElem?_append_right (by lia), show (denT W.q done).length + j - (denT W.q done).length = j by lia, List.getElem?_append_left hj, List.getElem?_eq_getElem hj]
                rfl)
              refine ⟨_, s2, _, s3, hv, S2, e, fun ads₂ y h₂ X r S₂ => ⟨ads₂, X, ?_, S₂.re (fun k v e => ⟨v, e, fun _ h => h⟩) (fun _ _ e => e) (by simp only [(PK 0).1, e1, b2, a2]) fun j ao ej => ?_⟩⟩
              · obtain ⟨t, rfl⟩ := r
                exact ⟨t, by rw [← ez, Int.zero_mul, Int.zero_add]⟩
              · rw [(PK j).2] at ej
                refine (Classical.em (j = k)).elim (fun q => ?_) fun q => ?_
                · replace ej := (if_pos q).symm.trans ej
                  cases Option.some.inj ej
                  refine ⟨_, by rw [q]; exact e2, fun o ho => OR.piter.mpr ?_⟩
                  rw [denT_append]
                  simpa [denT, Pc.den] using ho
                · replace ej := (if_neg q).symm.trans ej
                  refine (Classical.em (j = l)).elim (fun q2 => ?_) fun q2 => ?_
                  · rw [q2] at ej
                    rw [el] at ej; cases ej
                    exact ⟨_, by rw [q2, e3 l hne, b3, if_neg hne, a3, if_pos rfl], fun o ho => OR.pints.mpr ho⟩
                  · exact ⟨ao, by rw [e3 j q, b3, if_neg q, a3, if_neg q2]; exact ej, fun _ h => h⟩
            · exact nos hd
          · exact nos hd
        · exact nos hd
      · exact nos hd
    · exact nos hd
  · exact nos hd
end

noncomputable def obj1 (o i : Int) : List AO := [.fn 0 [0], .fn 3 [1], .cell (some (.lin 0 o)), .cell (some (.lin 0 i)), .cell none, .cell none, .cell none]
noncomputable def cel1 : List (Nat × Nat) := [(94, 2), (38, 3), (97, 4), (92, 5), (67, 6)]
noncomputable def loc1 (bh t a b : Int) : List (Nat × AV) := [(61, .lin 0 bh), (60, .lin 0 t), (35, .lin a b)]
noncomputable def locN (bh t a b : Int) : List (Nat × AV) := (64, .ref 7) :: loc1 bh t a b
noncomputable def loc2 (a b : Int) : List (Nat × AV) := [(64, .ref 7), (95, .ref 8), (35, .lin a b)]
noncomputable def stoOf (l : List AO) : Sto := (mkS l ⟨0, .nil⟩).getD ⟨0, .nil⟩
noncomputable def okT (σ : Sto) (k i : Nat) : Bool := match σ.get k with
  | some (.fn j (c :: _)) => match Nat.beq j i with | true => Nat.beq c k | false => false
  | _ => false
noncomputable def okO : Option (Fl × Loc × Sto) → Bool
  | some (.ret (.bool true), _, σ) => match okT σ 0 0 with | true => okT σ 1 3 | false => false
  | _ => false
noncomputable def tups : List (Int × Int) → List AO
  | [] => []
  | p :: r => .tup [.lin 0 p.1, .lin 0 p.2] :: tups r
noncomputable def refsF (k : Nat) : List (Int × Int) → List AV
  | [] => []
  | _ :: r => .ref k :: refsF (k + 1) r
noncomputable def objN (o i : Int) (m : List (Int × Int)) : List AO := [.fn 0 [0, 8], .fn 3 [1, 9], .cell (some (.lin 0 o)), .cell (some (.lin 0 i)), .cell none, .cell none, .cell none, .list (refsF 10 m), .fn 1 [], .fn 4 []] ++ tups m
noncomputable def objD (o i : Int) (m k : List (Int × Int)) : List AO := [.fn 0 [0, 9], .fn 3 [1, 10], .cell (some (.lin 0 o)), .cell (some (.lin 0 i)), .cell none, .cell none, .cell none, .list (refsF 11 m), .list (refsF (11 + m.length) k), .fn 1 [], .fn 4 []] ++ (tups m ++ tups k)

theorem fa_1_0_1 (i a b : Int) : D_far (ret .next) ⟨loc1 0 1 a b, cel1⟩ (stoOf (obj1 1 i)) = some (.next, ⟨locN 0 1 a b, cel1⟩, stoOf (objN 1 i [(1, 1)])) := by kernel_rfl
theorem fa_1_0_2 (i a b : Int) : D_far (ret .next) ⟨loc1 0 2 a b, cel1⟩ (stoOf (obj1 1 i)) = some (.next, ⟨locN 0 2 a b, cel1⟩, stoOf (objN 1 i [(1, 1)])) := by kernel_rfl
theorem fa_1_0_3 (i a b : Int) : D_far (ret .next) ⟨loc1 0 3 a b, cel1⟩ (stoOf (obj1 1 i)) = some (.next, ⟨locN 0 3 a b, cel1⟩, stoOf (objN 1 i [(1, 1)])) := by kernel_rfl
theorem fa_1_1_1 (i a b : Int) : D_far (ret .next) ⟨loc1 1 1 a b, cel1⟩ (stoOf (obj1 1 i)) = some (.next, ⟨locN 1 1 a b, cel1⟩, stoOf (objN 1 i [(1, 1)])) := by kernel_rfl
theorem fa_1_1_2 (i a b : Int) : D_far (ret .next) ⟨loc1 1 2 a b, cel1⟩ (stoOf (obj1 1 i)) = some (.next, ⟨locN 1 2 a b, cel1⟩, stoOf (objN 1 i [(1, 1)])) := by kernel_rfl
theorem fa_1_1_3 (i a b : Int) : D_far (ret .next) ⟨loc1 1 3 a b, cel1⟩ (stoOf (obj1 1 i)) = some (.next, ⟨locN 1 3 a b, cel1⟩, stoOf (objN 1 i [(1, 1)])) := by kernel_rfl
theorem fa_1_2_1 (i a b : Int) : D_far (ret .next) ⟨loc1 2 1 a b, cel1⟩ (stoOf (obj1 1 i)) = some (.next, ⟨locN 2 1 a b, cel1⟩, stoOf (objN 1 i [(1, 1)])) := by kernel_rfl
theorem fa_1_2_2 (i a b : Int) : D_far (ret .next) ⟨loc1 2 2 a b, cel1⟩ (stoOf (obj1 1 i)) = some (.next, ⟨locN 2 2 a b, cel1⟩, stoOf (objN 1 i [(1, 1)])) := by kernel_rfl
theorem fa_1_2_3 (i a b : Int) : D_far (ret .next) ⟨loc1 2 3 a b, cel1⟩ (stoOf (obj1 1 i)) = some (.next, ⟨locN 2 3 a b, cel1⟩, stoOf (objN 1 i [(1, 1)])) := by kernel_rfl
theorem fa_2_0_1 (i a b : Int) : D_far (ret .next) ⟨loc1 0 1 a b, cel1⟩ (stoOf (obj1 2 i)) = some (.next, ⟨locN 0 1 a b, cel1⟩, stoOf (objN 2 i [(2, 1), (1, 2)])) := by kernel_rfl
theorem fa_2_0_2 (i a b : Int) : D_far (ret .next) ⟨loc1 0 2 a b, cel1⟩ (stoOf (obj1 2 i)) = some (.next, ⟨locN 0 2 a b, cel1⟩, stoOf (objN 2 i [(2, 1), (1, 2)])) := by kernel_rfl
theorem fa_2_0_3 (i a b : Int) : D_far (ret .next) ⟨loc1 0 3 a b, cel1⟩ (stoOf (obj1 2 i)) = some (.next, ⟨locN 0 3 a b, cel1⟩, stoOf (objN 2 i [(2, 1), (1, 2)])) := by kernel_rfl
theorem fa_2_1_1 (i a b : Int) : D_far (ret .next) ⟨loc1 1 1 a b, cel1⟩ (stoOf (obj1 2 i)) = some (.next, ⟨locN 1 1 a b, cel1⟩, stoOf (objN 2 i [(2, 1), (1, 2)])) := by kernel_rfl
theorem fa_2_1_2 (i a b : Int) : D_far (ret .next) ⟨loc1 1 2 a b, cel1⟩ (stoOf (obj1 2 i)) = some (.next, ⟨locN 1 2 a b, cel1⟩, stoOf (objN 2 i [(2, 1), (1, 2)])) := by kernel_rfl
theorem fa_2_1_3 (i a b : Int) : D_far (ret .next) ⟨loc1 1 3 a b, cel1⟩ (stoOf (obj1 2 i)) = some (.next, ⟨locN 1 3 a b, cel1⟩, stoOf (objN 2 i [(2, 1), (1, 2)])) := by kernel_rfl
theorem fa_2_2_1 (i a b : Int) : D_far (ret .next) ⟨loc1 2 1 a b, cel1⟩ (stoOf (obj1 2 i)) = some (.next, ⟨locN 2 1 a b, cel1⟩, stoOf (objN 2 i [(2, 1), (1, 2)])) := by kernel_rfl
theorem fa_2_2_2 (i a b : Int) : D_far (ret .next) ⟨loc1 2 2 a b, cel1⟩ (stoOf (obj1 2 i)) = some (.next, ⟨locN 2 2 a b, cel1⟩, stoOf (objN 2 i [(2, 1), (1, 2)])) := by kernel_rfl
theorem fa_2_2_3 (i a b : Int) : D_far (ret .next) ⟨loc1 2 3 a b, cel1⟩ (stoOf (obj1 2 i)) = some (.next, ⟨locN 2 3 a b, cel1⟩, stoOf (objN 2 i [(2, 1), (1, 2)])) := by kernel_rfl
theorem fa_3_0_1 (i a b : Int) : D_far (ret .next) ⟨loc1 0 1 a b, cel1⟩ (stoOf (obj1 3 i)) = some (.next, ⟨locN 0 1 a b, cel1⟩, stoOf (objN 3 i [(3, 1), (1, 3)])) := by kernel_rfl
theorem fa_3_0_2 (i a b : Int) : D_far (ret .next) ⟨loc1 0 2 a b, cel1⟩ (stoOf (obj1 3 i)) = some (.next, ⟨locN 0 2 a b, cel1⟩, stoOf (objN 3 i [(3, 1), (1, 3)])) := by kernel_rfl
theorem fa_3_0_3 (i a b : Int) : D_far (ret .next) ⟨loc1 0 3 a b, cel1⟩ (stoOf (obj1 3 i)) = some (.next, ⟨locN 0 3 a b, cel1⟩, stoOf (objN 3 i [(3, 1), (1, 3)])) := by kernel_rfl
theorem fa_3_1_1 (i a b : Int) : D_far (ret .next) ⟨loc1 1 1 a b, cel1⟩ (stoOf (obj1 3 i)) = some (.next, ⟨locN 1 1 a b, cel1⟩, stoOf (objN 3 i [(3, 1), (1, 3)])) := by kernel_rfl
theorem fa_3_1_2 (i a b : Int) : D_far (ret .next) ⟨loc1 1 2 a b, cel1⟩ (stoOf (obj1 3 i)) = some (.next, ⟨locN 1 2 a b, cel1⟩, stoOf (objN 3 i [(3, 1), (1, 3)])) := by kernel_rfl
theorem fa_3_1_3 (i a b : Int) : D_far (ret .next) ⟨loc1 1 3 a b, cel1⟩ (stoOf (obj1 3 i)) = some (.next, ⟨locN 1 3 a b, cel1⟩, stoOf (objN 3 i [(3, 1), (1, 3)])) := by kernel_rfl
theorem fa_3_2_1 (i a b : Int) : D_far (ret .next) ⟨loc1 2 1 a b, cel1⟩ (stoOf (obj1 3 i)) = some (.next, ⟨locN 2 1 a b, cel1⟩, stoOf (objN 3 i [(3, 1), (1, 3)])) := by kernel_rfl
theorem fa_3_2_2 (i a b : Int) : D_far (ret .next) ⟨loc1 2 2 a b, cel1⟩ (stoOf (obj1 3 i)) = some (.next, ⟨locN 2 2 a b, cel1⟩, stoOf (objN 3 i [(3, 1), (1, 3)])) := by kernel_rfl
theorem fa_3_2_3 (i a b : Int) : D_far (ret .next) ⟨loc1 2 3 a b, cel1⟩ (stoOf (obj1 3 i)) = some (.next, ⟨locN 2 3 a b, cel1⟩, stoOf (objN 3 i [(3, 1), (1, 3)])) := by kernel_rfl
theorem fa_4_0_1 (i a b : Int) : D_far (ret .next) ⟨loc1 0 1 a b, cel1⟩ (stoOf (obj1 4 i)) = some (.next, ⟨locN 0 1 a b, cel1⟩, stoOf (objN 4 i [(4, 1), (2, 2), (1, 4)])) := by kernel_rfl
theorem fa_4_0_2 (i a b : Int) : D_far (ret .next) ⟨loc1 0 2 a b, cel1⟩ (stoOf (obj1 4 i)) = some (.next, ⟨locN 0 2 a b, cel1⟩, stoOf (objN 4 i [(4, 1), (2, 2), (1, 4)])) := by kernel_rfl
theorem fa_4_0_3 (i a b : Int) : D_far (ret .next) ⟨loc1 0 3 a b, cel1⟩ (stoOf (obj1 4 i)) = some (.next, ⟨locN 0 3 a b, cel1⟩, stoOf (objN 4 i [(4, 1), (2, 2), (1, 4)])) := by kernel_rfl
theorem fa_4_1_1 (i a b : Int) : D_far (ret .next) ⟨loc1 1 1 a b, cel1⟩ (stoOf (obj1 4 i)) = some (.next, ⟨locN 1 1 a b, cel1⟩, stoOf (objN 4 i [(4, 1), (2, 2), (1, 4)])) := by kernel_rfl
theorem fa_4_1_2 (i a b : Int) : D_far (ret .next) ⟨loc1 1 2 a b, cel1⟩ (stoOf (obj1 4 i)) = some (.next, ⟨locN 1 2 a b, cel1⟩, stoOf (objN 4 i [(4, 1), (2, 2), (1, 4)])) := by kernel_rfl
theorem fa_4_1_3 (i a b : Int) : D_far (ret .next) ⟨loc1 1 3 a b, cel1⟩ (stoOf (obj1 4 i)) = some (.next, ⟨locN 1 3 a b, cel1⟩, stoOf (objN 4 i [(4, 1), (2, 2), (1, 4)])) := by kernel_rfl
theorem fa_4_2_1 (i a b : Int) : D_far (ret .next) ⟨loc1 2 1 a b, cel1⟩ (stoOf (obj1 4 i)) = some (.next, ⟨locN 2 1 a b, cel1⟩, stoOf (objN 4 i [(4, 1), (2, 2), (1, 4)])) := by kernel_rfl
theorem fa_4_2_2 (i a b : Int) : D_far (ret .next) ⟨loc1 2 2 a b, cel1⟩ (stoOf (obj1 4 i)) = some (.next, ⟨locN 2 2 a b, cel1⟩, stoOf (objN 4 i [(4, 1), (2, 2), (1, 4)])) := by kernel_rfl
theorem fa_4_2_3 (i a b : Int) : D_far (ret .next) ⟨loc1 2 3 a b, cel1⟩ (stoOf (obj1 4 i)) = some (.next, ⟨locN 2 3 a b, cel1⟩, stoOf (objN 4 i [(4, 1), (2, 2), (1, 4)])) := by kernel_rfl
theorem cl_1_1_0_1 (o p0 q0 a b : Int) : D_clo (ret .next) ⟨locN 0 1 a b, cel1⟩ (stoOf (objN o 1 [(p0, q0)])) = some (.next, ⟨loc2 a b, cel1⟩, stoOf (objD o 1 [(p0, q0)] [(1, 1)])) := by kernel_rfl
theorem cl_1_1_0_2 (o p0 q0 a b : Int) : D_clo (ret .next) ⟨locN 0 2 a b, cel1⟩ (stoOf (objN o 1 [(p0, q0)])) = some (.next, ⟨loc2 a b, cel1⟩, stoOf (objD o 1 [(p0, q0)] [(1, 1)])) := by kernel_rfl
theorem cl_1_1_0_3 (o p0 q0 a b : Int) : D_clo (ret .next) ⟨locN 0 3 a b, cel1⟩ (stoOf (objN o 1 [(p0, q0)])) = some (.next, ⟨loc2 a b, cel1⟩, stoOf (objD o 1 [(p0, q0)] [(1, 1)])) := by kernel_rfl
theorem cl_1_1_1_1 (o p0 q0 a b : Int) : D_clo (ret .next) ⟨locN 1 1 a b, cel1⟩ (stoOf (objN o 1 [(p0, q0)])) = some (.next, ⟨loc2 a b, cel1⟩, stoOf (objD o 1 [(p0, q0)] [(1, 1)])) := by kernel_rfl
theorem cl_1_1_1_2 (o p0 q0 a b : Int) : D_clo (ret .next) ⟨locN 1 2 a b, cel1⟩ (stoOf (objN o 1 [(p0, q0)])) = some (.next, ⟨loc2 a b, cel1⟩, stoOf (objD o 1 [(p0, q0)] [(1, 1)])) := by kernel_rfl
theorem cl_1_1_1_3 (o p0 q0 a b : Int) : D_clo (ret .next) ⟨locN 1 3 a b, cel1⟩ (stoOf (objN o 1 [(p0, q0)])) = some (.next, ⟨loc2 a b, cel1⟩, stoOf (objD o 1 [(p0, q0)] [(1, 1)])) := by kernel_rfl
theorem cl_1_1_2_1 (o p0 q0 a b : Int) : D_clo (ret .next) ⟨locN 2 1 a b, cel1⟩ (stoOf (objN o 1 [(p0, q0)])) = some (.next, ⟨loc2 a b, cel1⟩, stoOf (objD o 1 [(p0, q0)] [(1, 1)])) := by kernel_rfl
theorem cl_1_1_2_2 (o p0 q0 a b : Int) : D_clo (ret .next) ⟨locN 2 2 a b, cel1⟩ (stoOf (objN o 1 [(p0, q0)])) = some (.next, ⟨loc2 a b, cel1⟩, stoOf (objD o 1 [(p0, q0)] [(1, 1)])) := by kernel_rfl
theorem cl_1_1_2_3 (o p0 q0 a b : Int) : D_clo (ret .next) ⟨locN 2 3 a b, cel1⟩ (stoOf (objN o 1 [(p0, q0)])) = some (.next, ⟨loc2 a b, cel1⟩, stoOf (objD o 1 [(p0, q0)] [(1, 1)])) := by kernel_rfl
theorem cl_1_2_0_1 (o p0 q0 a b : Int) : D_clo (ret .next) ⟨locN 0 1 a b, cel1⟩ (stoOf (objN o 2 [(p0, q0)])) = some (.next, ⟨loc2 a b, cel1⟩, stoOf (objD o 2 [(p0, q0)] [(2, 1), (1, 2)])) := by kernel_rfl
theorem cl_1_2_0_2 (o p0 q0 a b : Int) : D_clo (ret .next) ⟨locN 0 2 a b, cel1⟩ (stoOf (objN o 2 [(p0, q0)])) = some (.next, ⟨loc2 a b, cel1⟩, stoOf (objD o 2 [(p0, q0)] [(2, 1), (1, 2)])) := by kernel_rfl
theorem cl_1_2_0_3 (o p0 q0 a b : Int) : D_clo (ret .next) ⟨locN 0 3 a b, cel1⟩ (stoOf (objN o 2 [(p0, q0)])) = some (.next, ⟨loc2 a b, cel1⟩, stoOf (objD o 2 [(p0, q0)] [(2, 1), (1, 2)])) := by kernel_rfl
theorem cl_1_2_1_1 (o p0 q0 a b : Int) : D_clo (ret .next) ⟨locN 1 1 a b, cel1⟩ (stoOf (objN o 2 [(p0, q0)])) = some (.next, ⟨loc2 a b, cel1⟩, stoOf (objD o 2 [(p0, q0)] [(2, 1), (1, 2)])) := by kernel_rfl
theorem cl_1_2_1_2 (o p0 q0 a b : Int) : D_clo (ret .next) ⟨locN 1 2 a b, cel1⟩ (stoOf (objN o 2 [(p0, q0)])) = some (.next, ⟨loc2 a b, cel1⟩, stoOf (objD o 2 [(p0, q0)] [(2, 1), (1, 2)])) := by kernel_rfl
theorem cl_1_2_1_3 (o p0 q0 a b : Int) : D_clo (ret .next) ⟨locN 1 3 a b, cel1⟩ (stoOf (objN o 2 [(p0, q0)])) = some (.next, ⟨loc2 a b, cel1⟩, stoOf (objD o 2 [(p0, q0)] [(2, 1), (1, 2)])) := by kernel_rfl
theorem cl_1_2_2_1 (o p0 q0 a b : Int) : D_clo (ret .next) ⟨locN 2 1 a b, cel1⟩ (stoOf (objN o 2 [(p0, q0)])) = some (.next, ⟨loc2 a b, cel1⟩, stoOf (objD o 2 [(p0, q0)] [(2, 1), (1, 2)])) := by kernel_rfl
theorem cl_1_2_2_2 (o p0 q0 a b : Int) : D_clo (ret .next) ⟨locN 2 2 a b, cel1⟩ (stoOf (objN o 2 [(p0, q0)])) = some (.next, ⟨loc2 a b, cel1⟩, stoOf (objD o 2 [(p0, q0)] [(2, 1), (1, 2)])) := by kernel_rfl
theorem cl_1_2_2_3 (o p0 q0 a b : Int) : D_clo (ret .next) ⟨locN 2 3 a b, cel1⟩ (stoOf (objN o 2 [(p0, q0)])) = some (.next, ⟨loc2 a b, cel1⟩, stoOf (objD o 2 [(p0, q0)] [(2, 1), (1, 2)])) := by kernel_rfl
theorem cl_1_3_0_1 (o p0 q0 a b : Int) : D_clo (ret .next) ⟨locN 0 1 a b, cel1⟩ (stoOf (objN o 3 [(p0, q0)])) = some (.next, ⟨loc2 a b, cel1⟩, stoOf (objD o 3 [(p0, q0)] [(3, 1), (1, 3)])) := by kernel_rfl
theorem cl_1_3_0_2 (o p0 q0 a b : Int) : D_clo (ret .next) ⟨locN 0 2 a b, cel1⟩ (stoOf (objN o 3 [(p0, q0)])) = some (.next, ⟨loc2 a b, cel1⟩, stoOf (objD o 3 [(p0, q0)] [(3, 1), (1, 3)])) := by kernel_rfl
theorem cl_1_3_0_3 (o p0 q0 a b : Int) : D_clo (ret .next) ⟨locN 0 3 a b, cel1⟩ (stoOf (objN o 3 [(p0, q0)])) = some (.next, ⟨loc2 a b, cel1⟩, stoOf (objD o 3 [(p0, q0)] [(3, 1), (1, 3)])) := by kernel_rfl
theorem cl_1_3_1_1 (o p0 q0 a b : Int) : D_clo (ret .next) ⟨locN 1 1 a b, cel1⟩ (stoOf (objN o 3 [(p0, q0)])) = some (.next, ⟨loc2 a b, cel1⟩, stoOf (objD o 3 [(p0, q0)] [(3, 1), (1, 3)])) := by kernel_rfl
theorem cl_1_3_1_2 (o p0 q0 a b : Int) : D_clo (ret .next) ⟨locN 1 2 a b, cel1⟩ (stoOf (objN o 3 [(p0, q0)])) = some (.next, ⟨loc2 a b, cel1⟩, stoOf (objD o 3 [(p0, q0)] [(3, 1), (1, 3)])) := by kernel_rfl
theorem cl_1_3_1_3 (o p0 q0 a b : Int) : D_clo (ret .next) ⟨locN 1 3 a b, cel1⟩ (stoOf (objN o 3 [(p0, q0)])) = some (.next, ⟨loc2 a b, cel1⟩, stoOf (objD o 3 [(p0, q0)] [(3, 1), (1, 3)])) := by kernel_rfl
theorem cl_1_3_2_1 (o p0 q0 a b : Int) : D_clo (ret .next) ⟨locN 2 1 a b, cel1⟩ (stoOf (objN o 3 [(p0, q0)])) = some (.next, ⟨loc2 a b, cel1⟩, stoOf (objD o 3 [(p0, q0)] [(3, 1), (1, 3)])) := by kernel_rfl
theorem cl_1_3_2_2 (o p0 q0 a b : Int) : D_clo (ret .next) ⟨locN 2 2 a b, cel1⟩ (stoOf (objN o 3 [(p0, q0)])) = some (.next, ⟨loc2 a b, cel1⟩, stoOf (objD o 3 [(p0, q0)] [(3, 1), (1, 3)])) := by kernel_rfl
theorem cl_1_3_2_3 (o p0 q0 a b : Int) : D_clo (ret .next) ⟨locN 2 3 a b, cel1⟩ (stoOf (objN o 3 [(p0, q0)])) = some (.next, ⟨loc2 a b, cel1⟩, stoOf (objD o 3 [(p0, q0)] [(3, 1), (1, 3)])) := by kernel_rfl
theorem cl_1_4_0_1 (o p0 q0 a b : Int) : D_clo (ret .next) ⟨locN 0 1 a b, cel1⟩ (stoOf (objN o 4 [(p0, q0)])) = some (.next, ⟨loc2 a b, cel1⟩, stoOf (objD o 4 [(p0, q0)] [(4, 1), (2, 2), (1, 4)])) := by kernel_rfl
theorem cl_1_4_0_2 (o p0 q0 a b : Int) : D_clo (ret .next) ⟨locN 0 2 a b, cel1⟩ (stoOf (objN o 4 [(p0, q0)])) = some (.next, ⟨loc2 a b, cel1⟩, stoOf (objD o 4 [(p0, q0)] [(4, 1), (2, 2), (1, 4)])) := by kernel_rfl
theorem cl_1_4_0_3 (o p0 q0 a b : Int) : D_clo (ret .next) ⟨locN 0 3 a b, cel1⟩ (stoOf (objN o 4 [(p0, q0)])) = some (.next, ⟨loc2 a b, cel1⟩, stoOf (objD o 4 [(p0, q0)] [(4, 1), (2, 2), (1, 4)])) := by kernel_rfl
theorem cl_1_4_1_1 (o p0 q0 a b : Int) : D_clo (ret .next) ⟨locN 1 1 a b, cel1⟩ (stoOf (objN o 4 [(p0, q0)])) = some (.next, ⟨loc2 a b, cel1⟩, stoOf (objD o 4 [(p0, q0)] [(4, 1), (2, 2), (1, 4)])) := by kernel_rfl
theorem cl_1_4_1_2 (o p0 q0 a b : Int) : D_clo (ret .next) ⟨locN 1 2 a b, cel1⟩ (stoOf (objN o 4 [(p0, q0)])) = some (.next, ⟨loc2 a b, cel1⟩, stoOf (objD o 4 [(p0, q0)] [(4, 1), (2, 2), (1, 4)])) := by kernel_rfl
theorem cl_1_4_1_3 (o p0 q0 a b : Int) : D_clo (ret .next) ⟨locN 1 3 a b, cel1⟩ (stoOf (objN o 4 [(p0, q0)])) = some (.next, ⟨loc2 a b, cel1⟩, stoOf (objD o 4 [(p0, q0)] [(4, 1), (2, 2), (1, 4)])) := by kernel_rfl
theorem cl_1_4_2_1 (o p0 q0 a b : Int) : D_clo (ret .next) ⟨locN 2 1 a b, cel1⟩ (stoOf (objN o 4 [(p0, q0)])) = some (.next, ⟨loc2 a b, cel1⟩, stoOf (objD o 4 [(p0, q0)] [(4, 1), (2, 2), (1, 4)])) := by kernel_rfl
theorem cl_1_4_2_2 (o p0 q0 a b : Int) : D_clo (ret .next) ⟨locN 2 2 a b, cel1⟩ (stoOf (objN o 4 [(p0, q0)])) = some (.next, ⟨loc2 a b, cel1⟩, stoOf (objD o 4 [(p0, q0)] [(4, 1), (2, 2), (1, 4)])) := by kernel_rfl
theorem cl_1_4_2_3 (o p0 q0 a b : Int) : D_clo (ret .next) ⟨locN 2 3 a b, cel1⟩ (stoOf (objN o 4 [(p0, q0)])) = some (.next, ⟨loc2 a b, cel1⟩, stoOf (objD o 4 [(p0, q0)] [(4, 1), (2, 2), (1, 4)])) := by kernel_rfl
theorem cl_1_5_0_1 (o p0 q0 a b : Int) : D_clo (ret .next) ⟨locN 0 1 a b, cel1⟩ (stoOf (objN o 5 [(p0, q0)])) = some (.next, ⟨loc2 a b, cel1⟩, stoOf (objD o 5 [(p0, q0)] [(5, 1), (1, 5)])) := by kernel_rfl
theorem cl_1_5_0_2 (o p0 q0 a b : Int) : D_clo (ret .next) ⟨locN 0 2 a b, cel1⟩ (stoOf (objN o 5 [(p0, q0)])) = some (.next, ⟨loc2 a b, cel1⟩, stoOf (objD o 5 [(p0, q0)] [(5, 1), (1, 5)])) := by kernel_rfl
theorem cl_1_5_0_3 (o p0 q0 a b : Int) : D_clo (ret .next) ⟨locN 0 3 a b, cel1⟩ (stoOf (objN o 5 [(p0, q0)])) = some (.next, ⟨loc2 a b, cel1⟩, stoOf (objD o 5 [(p0, q0)] [(5, 1), (1, 5)])) := by kernel_rfl
theorem cl_1_5_1_1 (o p0 q0 a b : Int) : D_clo (ret .next) ⟨locN 1 1 a b, cel1⟩ (stoOf (objN o 5 [(p0, q0)])) = some (.next, ⟨loc2 a b, cel1⟩, stoOf (objD o 5 [(p0, q0)] [(5, 1), (1, 5)])) := by kernel_rfl
theorem cl_1_5_1_2 (o p0 q0 a b : Int) : D_clo (ret .next) ⟨locN 1 2 a b, cel1⟩ (stoOf (objN o 5 [(p0, q0)])) = some (.next, ⟨loc2 a b, cel1⟩, stoOf (objD o 5 [(p0, q0)] [(5, 1), (1, 5)])) := by kernel_rfl
theorem cl_1_5_1_3 (o p0 q0 a b : Int) : D_clo (ret .next) ⟨locN 1 3 a b, cel1⟩ (stoOf (objN o 5 [(p0, q0)])) = some (.next, ⟨loc2 a b, cel1⟩, stoOf (objD o 5 [(p0, q0)] [(5, 1), (1, 5)])) := by kernel_rfl
theorem cl_1_5_2_1 (o p0 q0 a b : Int) : D_clo (ret .next) ⟨locN 2 1 a b, cel1⟩ (stoOf (objN o 5 [(p0, q0)])) = some (.next, ⟨loc2 a b, cel1⟩, stoOf (objD o 5 [(p0, q0)] [(5, 1), (1, 5)])) := by kernel_rfl
theorem cl_1_5_2_2 (o p0 q0 a b : Int) : D_clo (ret .next) ⟨locN 2 2 a b, cel1⟩ (stoOf (objN o 5 [(p0, q0)])) = some (.next, ⟨loc2 a b, cel1⟩, stoOf (objD o 5 [(p0, q0)] [(5, 1), (1, 5)])) := by kernel_rfl
theorem cl_1_5_2_3 (o p0 q0 a b : Int) : D_clo (ret .next) ⟨locN 2 3 a b, cel1⟩ (stoOf (objN o 5 [(p0, q0)])) = some (.next, ⟨loc2 a b, cel1⟩, stoOf (objD o 5 [(p0, q0)] [(5, 1), (1, 5)])) := by kernel_rfl
theorem cl_2_1_0_1 (o p0 q0 p1 q1 a b : Int) : D_clo (ret .next) ⟨locN 0 1 a b, cel1⟩ (stoOf (objN o 1 [(p0, q0), (p1, q1)])) = some (.next, ⟨loc2 a b, cel1⟩, stoOf (objD o 1 [(p0, q0), (p1, q1)] [(1, 1)])) := by kernel_rfl
theorem cl_2_1_0_2 (o p0 q0 p1 q1 a b : Int) : D_clo (ret .next) ⟨locN 0 2 a b, cel1⟩ (stoOf (objN o 1 [(p0, q0), (p1, q1)])) = some (.next, ⟨loc2 a b, cel1⟩, stoOf (objD o 1 [(p0, q0), (p1, q1)] [(1, 1)])) := by kernel_rfl
theorem cl_2_1_0_3 (o p0 q0 p1 q1 a b : Int) : D_clo (ret .next) ⟨locN 0 3 a b, cel1⟩ (stoOf (objN o 1 [(p0, q0), (p1, q1)])) = some (.next, ⟨loc2 a b, cel1⟩, stoOf (objD o 1 [(p0, q0), (p1, q1)] [(1, 1)])) := by kernel_rfl
theorem cl_2_1_1_1 (o p0 q0 p1 q1 a b : Int) : D_clo (ret .next) ⟨locN 1 1 a b, cel1⟩ (stoOf (objN o 1 [(p0, q0), (p1, q1)])) = some (.next, ⟨loc2 a b, cel1⟩, stoOf (objD o 1 [(p0, q0), (p1, q1)] [(1, 1)])) := by kernel_rfl
theorem cl_2_1_1_2 (o p0 q0 p1 q1 a b : Int) : D_clo (ret .next) ⟨locN 1 2 a b, cel1⟩ (stoOf (objN o 1 [(p0, q0), (p1, q1)])) = some (.next, ⟨loc2 a b, cel1⟩, stoOf (objD o 1 [(p0, q0), (p1, q1)] [(1, 1)])) := by kernel_rfl
theorem cl_2_1_1_3 (o p0 q0 p1 q1 a b : Int) : D_clo (ret .next) ⟨locN 1 3 a b, cel1⟩ (stoOf (objN o 1 [(p0, q0), (p1, q1)])) = some (.next, ⟨loc2 a b, cel1⟩, stoOf (objD o 1 [(p0, q0), (p1, q1)] [(1, 1)])) := by kernel_rfl
theorem cl_2_1_2_1 (o p0 q0 p1 q1 a b : Int) : D_clo (ret .next) ⟨locN 2 1 a b, cel1⟩ (stoOf (objN o 1 [(p0, q0), (p1, q1)])) = some (.next, ⟨loc2 a b, cel1⟩, stoOf (objD o 1 [(p0, q0), (p1, q1)] [(1, 1)])) := by kernel_rfl
theorem cl_2_1_2_2 (o p0 q0 p1 q1 a b : Int) : D_clo (ret .next) ⟨locN 2 2 a b, cel1⟩ (stoOf (objN o 1 [(p0, q0), (p1, q1)])) = some (.next, ⟨loc2 a b, cel1⟩, stoOf (objD o 1 [(p0, q0), (p1, q1)] [(1, 1)])) := by kernel_rfl
theorem cl_2_1_2_3 (o p0 q0 p1 q1 a b : Int) : D_clo (ret .next) ⟨locN 2 3 a b, cel1⟩ (stoOf (objN o 1 [(p0, q0), (p1, q1)])) = some (.next, ⟨loc2 a b, cel1⟩, stoOf (objD o 1 [(p0, q0), (p1, q1)] [(1, 1)])) := by kernel_rfl
theorem cl_2_2_0_1 (o p0 q0 p1 q1 a b : Int) : D_clo (ret .next) ⟨locN 0 1 a b, cel1⟩ (stoOf (objN o 2 [(p0, q0), (p1, q1)])) = some (.next, ⟨loc2 a b, cel1⟩, stoOf (objD o 2 [(p0, q0), (p1, q1)] [(2, 1), (1, 2)])) := by kernel_rfl
theorem cl_2_2_0_2 (o p0 q0 p1 q1 a b : Int) : D_clo (ret .next) ⟨locN 0 2 a b, cel1⟩ (stoOf (objN o 2 [(p0, q0), (p1, q1)])) = some (.next, ⟨loc2 a b, cel1⟩, stoOf (objD o 2 [(p0, q0), (p1, q1)] [(2, 1), (1, 2)])) := by kernel_rfl
theorem cl_2_2_0_3 (o p0 q0 p1 q1 a b : Int) : D_clo (ret .next) ⟨locN 0 3 a b, cel1⟩ (stoOf (objN o 2 [(p0, q0), (p1, q1)])) = some (.next, ⟨loc2 a b, cel1⟩, stoOf (objD o 2 [(p0, q0), (p1, q1)] [(2, 1), (1, 2)])) := by kernel_rfl
theorem cl_2_2_1_1 (o p0 q0 p1 q1 a b : Int) : D_clo (ret .next) ⟨locN 1 1 a b, cel1⟩ (stoOf (objN o 2 [(p0, q0), (p1, q1)])) = some (.next, ⟨loc2 a b, cel1⟩, stoOf (objD o 2 [(p0, q0), (p1, q1)] [(2, 1), (1, 2)])) := by kernel_rfl
theorem cl_2_2_1_2 (o p0 q0 p1 q1 a b : Int) : D_clo (ret .next) ⟨locN 1 2 a b, cel1⟩ (stoOf (objN o 2 [(p0, q0), (p1, q1)])) = some (.next, ⟨loc2 a b, cel1⟩, stoOf (objD o 2 [(p0, q0), (p1, q1)] [(2, 1), (1, 2)])) := by kernel_rfl
theorem cl_2_2_1_3 (o p0 q0 p1 q1 a b : Int) : D_clo (ret .next) ⟨locN 1 3 a b, cel1⟩ (stoOf (objN o 2 [(p0, q0), (p1, q1)])) = some (.next, ⟨loc2 a b, cel1⟩, stoOf (objD o 2 [(p0, q0), (p1, q1)] [(2, 1), (1, 2)])) := by kernel_rfl
theorem cl_2_2_2_1 (o p0 q0 p1 q1 a b : Int) : D_clo (ret .next) ⟨locN 2 1 a b, cel1⟩ (stoOf (objN o 2 [(p0, q0), (p1, q1)])) = some (.next, ⟨loc2 a b, cel1⟩, stoOf (objD o 2 [(p0, q0), (p1, q1)] [(2, 1), (1, 2)])) := by kernel_rfl
theorem cl_2_2_2_2 (o p0 q0 p1 q1 a b : Int) : D_clo (ret .next) ⟨locN 2 2 a b, cel1⟩ (stoOf (objN o 2 [(p0, q0), (p1, q1)])) = some (.next, ⟨loc2 a b, cel1⟩, stoOf (objD o 2 [(p0, q0), (p1, q1)] [(2, 1), (1, 2)])) := by kernel_rfl
theorem cl_2_2_2_3 (o p0 q0 p1 q1 a b : Int) : D_clo (ret .next) ⟨locN 2 3 a b, cel1⟩ (stoOf (objN o 2 [(p0, q0), (p1, q1)])) = some (.next, ⟨loc2 a b, cel1⟩, stoOf (objD o 2 [(p0, q0), (p1, q1)] [(2, 1), (1, 2)])) := by kernel_rfl
theorem cl_2_3_0_1 (o p0 q0 p1 q1 a b : Int) : D_clo (ret .next) ⟨locN 0 1 a b, cel1⟩ (stoOf (objN o 3 [(p0, q0), (p1, q1)])) = some (.next, ⟨loc2 a b, cel1⟩, stoOf (objD o 3 [(p0, q0), (p1, q1)] [(3, 1), (1, 3)])) := by kernel_rfl
theorem cl_2_3_0_2 (o p0 q0 p1 q1 a b : Int) : D_clo (ret .next) ⟨locN 0 2 a b, cel1⟩ (stoOf (objN o 3 [(p0, q0), (p1, q1)])) = some (.next, ⟨loc2 a b, cel1⟩, stoOf (objD o 3 [(p0, q0), (p1, q1)] [(3, 1), (1, 3)])) := by kernel_rfl
theorem cl_2_3_0_3 (o p0 q0 p1 q1 a b : Int) : D_clo (ret .next) ⟨locN 0 3 a b, cel1⟩ (stoOf (objN o 3 [(p0, q0), (p1, q1)])) = some (.next, ⟨loc2 a b, cel1⟩, stoOf (objD o 3 [(p0, q0), (p1, q1)] [(3, 1), (1, 3)])) := by kernel_rfl
theorem cl_2_3_1_1 (o p0 q0 p1 q1 a b : Int) : D_clo (ret .next) ⟨locN 1 1 a b, cel1⟩ (stoOf (objN o 3 [(p0, q0), (p1, q1)])) = some (.next, ⟨loc2 a b, cel1⟩, stoOf (objD o 3 [(p0, q0), (p1, q1)] [(3, 1), (1, 3)])) := by kernel_rfl
theorem cl_2_3_1_2 (o p0 q0 p1 q1 a b : Int) : D_clo (ret .next) ⟨locN 1 2 a b, cel1⟩ (stoOf (objN o 3 [(p0, q0), (p1, q1)])) = some (.next, ⟨loc2 a b, cel1⟩, stoOf (objD o 3 [(p0, q0), (p1, q1)] [(3, 1), (1, 3)])) := by kernel_rfl
theorem cl_2_3_1_3 (o p0 q0 p1 q1 a b : Int) : D_clo (ret .next) ⟨locN 1 3 a b, cel1⟩ (stoOf (objN o 3 [(p0, q0), (p1, q1)])) = some (.next, ⟨loc2 a b, cel1⟩, stoOf (objD o 3 [(p0, q0), (p1, q1)] [(3, 1), (1, 3)])) := by kernel_rfl
theorem cl_2_3_2_1 (o p0 q0 p1 q1 a b : Int) : D_clo (ret .next) ⟨locN 2 1 a b, cel1⟩ (stoOf (objN o 3 [(p0, q0), (p1, q1)])) = some (.next, ⟨loc2 a b, cel1⟩, stoOf (objD o 3 [(p0, q0), (p1, q1)] [(3, 1), (1, 3)])) := by kernel_rfl
theorem cl_2_3_2_2 (o p0 q0 p1 q1 a b : Int) : D_clo (ret .next) ⟨locN 2 2 a b, cel1⟩ (stoOf (objN o 3 [(p0, q0), (p1, q1)])) = some (.next, ⟨loc2 a b, cel1⟩, stoOf (objD o 3 [(p0, q0), (p1, q1)] [(3, 1), (1, 3)])) := by kernel_rfl
theorem cl_2_3_2_3 (o p0 q0 p1 q1 a b : Int) : D_clo (ret .next) ⟨locN 2 3 a b, cel1⟩ (stoOf (objN o 3 [(p0, q0), (p1, q1)])) = some (.next, ⟨loc2 a b, cel1⟩, stoOf (objD o 3 [(p0, q0), (p1, q1)] [(3, 1), (1, 3)])) := by kernel_rfl
theorem cl_2_4_0_1 (o p0 q0 p1 q1 a b : Int) : D_clo (ret .next) ⟨locN 0 1 a b, cel1⟩ (stoOf (objN o 4 [(p0, q0), (p1, q1)])) = some (.next, ⟨loc2 a b, cel1⟩, stoOf (objD o 4 [(p0, q0), (p1, q1)] [(4, 1), (2, 2), (1, 4)])) := by kernel_rfl
theorem cl_2_4_0_2 (o p0 q0 p1 q1 a b : Int) : D_clo (ret .next) ⟨locN 0 2 a b, cel1⟩ (stoOf (objN o 4 [(p0, q0), (p1, q1)])) = some (.next, ⟨loc2 a b, cel1⟩, stoOf (objD o 4 [(p0, q0), (p1, q1)] [(4, 1), (2, 2), (1, 4)])) := by kernel_rfl
theorem cl_2_4_0_3 (o p0 q0 p1 q1 a b : Int) : D_clo (ret .next) ⟨locN 0 3 a b, cel1⟩ (stoOf (objN o 4 [(p0, q0), (p1, q1)])) = some (.next, ⟨loc2 a b, cel1⟩, stoOf (objD o 4 [(p0, q0), (p1, q1)] [(4, 1), (2, 2), (1, 4)])) := by kernel_rfl
theorem cl_2_4_1_1 (o p0 q0 p1 q1 a b : Int) : D_clo (ret .next) ⟨locN 1 1 a b, cel1⟩ (stoOf (objN o 4 [(p0, q0), (p1, q1)])) = some (.next, ⟨loc2 a b, cel1⟩, stoOf (objD o 4 [(p0, q0), (p1, q1)] [(4, 1), (2, 2), (1, 4)])) := by kernel_rfl
theorem cl_2_4_1_2 (o p0 q0 p1 q1 a b : Int) : D_clo (ret .next) ⟨locN 1 2 a b, cel1⟩ (stoOf (objN o 4 [(p0, q0), (p1, q1)])) = some (.next, ⟨loc2 a b, cel1⟩, stoOf (objD o 4 [(p0, q0), (p1, q1)] [(4, 1), (2, 2), (1, 4)])) := by kernel_rfl
theorem cl_2_4_1_3 (o p0 q0 p1 q1 a b : Int) : D_clo (ret .next) ⟨locN 1 3 a b, cel1⟩ (stoOf (objN o 4 [(p0, q0), (p1, q1)])) = some (.next, ⟨loc2 a b, cel1⟩, stoOf (objD o 4 [(p0, q0), (p1, q1)] [(4, 1), (2, 2), (1, 4)])) := by kernel_rfl
theorem cl_2_4_2_1 (o p0 q0 p1 q1 a b : Int) : D_clo (ret .next) ⟨locN 2 1 a b, cel1⟩ (stoOf (objN o 4 [(p0, q0), (p1, q1)])) = some (.next, ⟨loc2 a b, cel1⟩, stoOf (objD o 4 [(p0, q0), (p1, q1)] [(4, 1), (2, 2), (1, 4)])) := by kernel_rfl
theorem cl_2_4_2_2 (o p0 q0 p1 q1 a b : Int) : D_clo (ret .next) ⟨locN 2 2 a b, cel1⟩ (stoOf (objN o 4 [(p0, q0), (p1, q1)])) = some (.next, ⟨loc2 a b, cel1⟩, stoOf (objD o 4 [(p0, q0), (p1, q1)] [(4, 1), (2, 2), (1, 4)])) := by kernel_rfl
theorem cl_2_4_2_3 (o p0 q0 p1 q1 a b : Int) : D_clo (ret .next) ⟨locN 2 3 a b, cel1⟩ (stoOf (objN o 4 [(p0, q0), (p1, q1)])) = some (.next, ⟨loc2 a b, cel1⟩, stoOf (objD o 4 [(p0, q0), (p1, q1)] [(4, 1), (2, 2), (1, 4)])) := by kernel_rfl
theorem cl_3_1_0_1 (o p0 q0 p1 q1 p2 q2 a b : Int) : D_clo (ret .next) ⟨locN 0 1 a b, cel1⟩ (stoOf (objN o 1 [(p0, q0), (p1, q1), (p2, q2)])) = some (.next, ⟨loc2 a b, cel1⟩, stoOf (objD o 1 [(p0, q0), (p1, q1), (p2, q2)] [(1, 1)])) := by kernel_rfl
theorem cl_3_1_0_2 (o p0 q0 p1 q1 p2 q2 a b : Int) : D_clo (ret .next) ⟨locN 0 2 a b, cel1⟩ (stoOf (objN o 1 [(p0, q0), (p1, q1), (p2, q2)])) = some (.next, ⟨loc2 a b, cel1⟩, stoOf (objD o 1 [(p0, q0), (p1, q1), (p2, q2)] [(1, 1)])) := by kernel_rfl
theorem cl_3_1_0_3 (o p0 q0 p1 q1 p2 q2 a b : Int) : D_clo (ret .next) ⟨locN 0 3 a b, cel1⟩ (stoOf (objN o 1 [(p0, q0), (p1, q1), (p2, q2)])) = some (.next, ⟨loc2 a b, cel1⟩, stoOf (objD o 1 [(p0, q0), (p1, q1), (p2, q2)] [(1, 1)])) := by kernel_rfl
theorem cl_3_1_1_1 (o p0 q0 p1 q1 p2 q2 a b : Int) : D_clo (ret .next) ⟨locN 1 1 a b, cel1⟩ (stoOf (objN o 1 [(p0, q0), (p1, q1), (p2, q2)])) = some (.next, ⟨loc2 a b, cel1⟩, stoOf (objD o 1 [(p0, q0), (p1, q1), (p2, q2)] [(1, 1)])) := by kernel_rfl
theorem cl_3_1_1_2 (o p0 q0 p1 q1 p2 q2 a b : Int) : D_clo (ret .next) ⟨locN 1 2 a b, cel1⟩ (stoOf (objN o 1 [(p0, q0), (p1, q1), (p2, q2)])) = some (.next, ⟨loc2 a b, cel1⟩, stoOf (objD o 1 [(p0, q0), (p1, q1), (p2, q2)] [(1, 1)])) := by kernel_rfl
theorem cl_3_1_1_3 (o p0 q0 p1 q1 p2 q2 a b : Int) : D_clo (ret .next) ⟨locN 1 3 a b, cel1⟩ (stoOf (objN o 1 [(p0, q0), (p1, q1), (p2, q2)])) = some (.next, ⟨loc2 a b, cel1⟩, stoOf (objD o 1 [(p0, q0), (p1, q1), (p2, q2)] [(1, 1)])) := by kernel_rfl
theorem cl_3_1_2_1 (o p0 q0 p1 q1 p2 q2 a b : Int) : D_clo (ret .next) ⟨locN 2 1 a b, cel1⟩ (stoOf (objN o 1 [(p0, q0), (p1, q1), (p2, q2)])) = some (.next, ⟨loc2 a b, cel1⟩, stoOf (objD o 1 [(p0, q0), (p1, q1), (p2, q2)] [(1, 1)])) := by kernel_rfl
theorem cl_3_1_2_2 (o p0 q0 p1 q1 p2 q2 a b : Int) : D_clo (ret .next) ⟨locN 2 2 a b, cel1⟩ (stoOf (objN o 1 [(p0, q0), (p1, q1), (p2, q2)])) = some (.next, ⟨loc2 a b, cel1⟩, stoOf (objD o 1 [(p0, q0), (p1, q1), (p2, q2)] [(1, 1)])) := by kernel_rfl
theorem cl_3_1_2_3 (o p0 q0 p1 q1 p2 q2 a b : Int) : D_clo (ret .next) ⟨locN 2 3 a b, cel1⟩ (stoOf (objN o 1 [(p0, q0), (p1, q1), (p2, q2)])) = some (.next, ⟨loc2 a b, cel1⟩, stoOf (objD o 1 [(p0, q0), (p1, q1), (p2, q2)] [(1, 1)])) := by kernel_rfl
theorem cl_3_2_0_1 (o p0 q0 p1 q1 p2 q2 a b : Int) : D_clo (ret .next) ⟨locN 0 1 a b, cel1⟩ (stoOf (objN o 2 [(p0, q0), (p1, q1), (p2, q2)])) = some (.next, ⟨loc2 a b, cel1⟩, stoOf (objD o 2 [(p0, q0), (p1, q1), (p2, q2)] [(2, 1), (1, 2)])) := by kernel_rfl
theorem cl_3_2_0_2 (o p0 q0 p1 q1 p2 q2 a b : Int) : D_clo (ret .next) ⟨locN 0 2 a b, cel1⟩ (stoOf (objN o 2 [(p0, q0), (p1, q1), (p2, q2)])) = some (.next, ⟨loc2 a b, cel1⟩, stoOf (objD o 2 [(p0, q0), (p1, q1), (p2, q2)] [(2, 1), (1, 2)])) := by kernel_rfl
theorem cl_3_2_0_3 (o p0 q0 p1 q1 p2 q2 a b : Int) : D_clo (ret .next) ⟨locN 0 3 a b, cel1⟩ (stoOf (objN o 2 [(p0, q0), (p1, q1), (p2, q2)])) = some (.next, ⟨loc2 a b, cel1⟩, stoOf (objD o 2 [(p0, q0), (p1, q1), (p2, q2)] [(2, 1), (1, 2)])) := by kernel_rfl
theorem cl_3_2_1_1 (o p0 q0 p1 q1 p2 q2 a b : Int) : D_clo (ret .next) ⟨locN 1 1 a b, cel1⟩ (stoOf (objN o 2 [(p0, q0), (p1, q1), (p2, q2)])) = some (.next, ⟨loc2 a b, cel1⟩, stoOf (objD o 2 [(p0, q0), (p1, q1), (p2, q2)] [(2, 1), (1, 2)])) := by kernel_rfl
theorem cl_3_2_1_2 (o p0 q0 p1 q1 p2 q2 a b : Int) : D_clo (ret .next) ⟨locN 1 2 a b, cel1⟩ (stoOf (objN o 2 [(p0, q0), (p1, q1), (p2, q2)])) = some (.next, ⟨loc2 a b, cel1⟩, stoOf (objD o 2 [(p0, q0), (p1, q1), (p2, q2)] [(2, 1), (1, 2)])) := by kernel_rfl
theorem cl_3_2_1_3 (o p0 q0 p1 q1 p2 q2 a b : Int) : D_clo (ret .next) ⟨locN 1 3 a b, cel1⟩ (stoOf (objN o 2 [(p0, q0), (p1, q1), (p2, q2)])) = some (.next, ⟨loc2 a b, cel1⟩, stoOf (objD o 2 [(p0, q0), (p1, q1), (p2, q2)] [(2, 1), (1, 2)])) := by kernel_rfl
theorem cl_3_2_2_1 (o p0 q0 p1 q1 p2 q2 a b : Int) : D_clo (ret .next) ⟨locN 2 1 a b, cel1⟩ (stoOf (objN o 2 [(p0, q0), (p1, q1), (p2, q2)])) = some (.next, ⟨loc2 a b, cel1⟩, stoOf (objD o 2 [(p0, q0), (p1, q1), (p2, q2)] [(2, 1), (1, 2)])) := by kernel_rfl
theorem cl_3_2_2_2 (o p0 q0 p1 q1 p2 q2 a b : Int) : D_clo (ret .next) ⟨locN 2 2 a b, cel1⟩ (stoOf (objN o 2 [(p0, q0), (p1, q1), (p2, q2)])) = some (.next, ⟨loc2 a b, cel1⟩, stoOf (objD o 2 [(p0, q0), (p1, q1), (p2, q2)] [(2, 1), (1, 2)])) := by kernel_rfl
theorem cl_3_2_2_3 (o p0 q0 p1 q1 p2 q2 a b : Int) : D_clo (ret .next) ⟨locN 2 3 a b, cel1⟩ (stoOf (objN o 2 [(p0, q0), (p1, q1), (p2, q2)])) = some (.next, ⟨loc2 a b, cel1⟩, stoOf (objD o 2 [(p0, q0), (p1, q1), (p2, q2)] [(2, 1), (1, 2)])) := by kernel_rfl

theorem ck_1_1 (a b : Int) : D_chk (ret .next) ⟨loc2 a b, cel1⟩ (stoOf (objD 1 1 [(1, 1)] [(1, 1)])) = some (.next, ⟨loc2 a b, cel1⟩, stoOf (objD 1 1 [(1, 1)] [(1, 1)])) := by kernel_rfl
theorem pb_1_1_0 : okO (D_lawB ⟨loc2 1 0, cel1⟩ (stoOf (objD 1 1 [(1, 1)] [(1, 1)]))) = true := by kernel_rfl
theorem ck_1_2 (a b : Int) : D_chk (ret .next) ⟨loc2 a b, cel1⟩ (stoOf (objD 1 2 [(1, 1)] [(2, 1), (1, 2)])) = some (.next, ⟨loc2 a b, cel1⟩, stoOf (objD 1 2 [(1, 1)] [(2, 1), (1, 2)])) := by kernel_rfl
theorem pb_1_2_0 : okO (D_lawB ⟨loc2 2 0, cel1⟩ (stoOf (objD 1 2 [(1, 1)] [(2, 1), (1, 2)]))) = true := by kernel_rfl
theorem pb_1_2_1 : okO (D_lawB ⟨loc2 2 1, cel1⟩ (stoOf (objD 1 2 [(1, 1)] [(2, 1), (1, 2)]))) = true := by kernel_rfl
theorem ck_1_3 (a b : Int) : D_chk (ret .next) ⟨loc2 a b, cel1⟩ (stoOf (objD 1 3 [(1, 1)] [(3, 1), (1, 3)])) = some (.next, ⟨loc2 a b, cel1⟩, stoOf (objD 1 3 [(1, 1)] [(3, 1), (1, 3)])) := by kernel_rfl
theorem pb_1_3_0 : okO (D_lawB ⟨loc2 3 0, cel1⟩ (stoOf (objD 1 3 [(1, 1)] [(3, 1), (1, 3)]))) = true := by kernel_rfl
theorem pb_1_3_1 : okO (D_lawB ⟨loc2 3 1, cel1⟩ (stoOf (objD 1 3 [(1, 1)] [(3, 1), (1, 3)]))) = true := by kernel_rfl
theorem pb_1_3_2 : okO (D_lawB ⟨loc2 3 2, cel1⟩ (stoOf (objD 1 3 [(1, 1)] [(3, 1), (1, 3)]))) = true := by kernel_rfl
theorem ck_1_4 (a b : Int) : D_chk (ret .next) ⟨loc2 a b, cel1⟩ (stoOf (objD 1 4 [(1, 1)] [(4, 1), (2, 2), (1, 4)])) = some (.next, ⟨loc2 a b, cel1⟩, stoOf (objD 1 4 [(1, 1)] [(4, 1), (2, 2), (1, 4)])) := by kernel_rfl
theorem pb_1_4_0 : okO (D_lawB ⟨loc2 4 0, cel1⟩ (stoOf (objD 1 4 [(1, 1)] [(4, 1), (2, 2), (1, 4)]))) = true := by kernel_rfl
theorem pb_1_4_1 : okO (D_lawB ⟨loc2 4 1, cel1⟩ (stoOf (objD 1 4 [(1, 1)] [(4, 1), (2, 2), (1, 4)]))) = true := by kernel_rfl
theorem pb_1_4_2 : okO (D_lawB ⟨loc2 4 2, cel1⟩ (stoOf (objD 1 4 [(1, 1)] [(4, 1), (2, 2), (1, 4)]))) = true := by kernel_rfl
theorem pb_1_4_3 : okO (D_lawB ⟨loc2 4 3, cel1⟩ (stoOf (objD 1 4 [(1, 1)] [(4, 1), (2, 2), (1, 4)]))) = true := by kernel_rfl
theorem ck_1_5 (a b : Int) : D_chk (ret .next) ⟨loc2 a b, cel1⟩ (stoOf (objD 1 5 [(1, 1)] [(5, 1), (1, 5)])) = some (.next, ⟨loc2 a b, cel1⟩, stoOf (objD 1 5 [(1, 1)] [(5, 1), (1, 5)])) := by kernel_rfl
theorem pb_1_5_0 : okO (D_lawB ⟨loc2 5 0, cel1⟩ (stoOf (objD 1 5 [(1, 1)] [(5, 1), (1, 5)]))) = true := by kernel_rfl
theorem pb_1_5_1 : okO (D_lawB ⟨loc2 5 1, cel1⟩ (stoOf (objD 1 5 [(1, 1)] [(5, 1), (1, 5)]))) = true := by kernel_rfl
theorem pb_1_5_2 : okO (D_lawB ⟨loc2 5 2, cel1⟩ (stoOf (objD 1 5 [(1, 1)] [(5, 1), (1, 5)]))) = true := by kernel_rfl
theorem pb_1_5_3 : okO (D_lawB ⟨loc2 5 3, cel1⟩ (stoOf (objD 1 5 [(1, 1)] [(5, 1), (1, 5)]))) = true := by kernel_rfl
theorem pb_1_5_4 : okO (D_lawB ⟨loc2 5 4, cel1⟩ (stoOf (objD 1 5 [(1, 1)] [(5, 1), (1, 5)]))) = true := by kernel_rfl
theorem ck_2_1 (a b : Int) : D_chk (ret .next) ⟨loc2 a b, cel1⟩ (stoOf (objD 2 1 [(2, 1), (1, 2)] [(1, 1)])) = some (.next, ⟨loc2 a b, cel1⟩, stoOf (objD 2 1 [(2, 1), (1, 2)] [(1, 1)])) := by kernel_rfl
theorem pb_2_1_0 : okO (D_lawB ⟨loc2 1 0, cel1⟩ (stoOf (objD 2 1 [(2, 1), (1, 2)] [(1, 1)]))) = true := by kernel_rfl
theorem ck_2_2 (a b : Int) : D_chk (ret .next) ⟨loc2 a b, cel1⟩ (stoOf (objD 2 2 [(2, 1), (1, 2)] [(2, 1), (1, 2)])) = some (.next, ⟨loc2 a b, cel1⟩, stoOf (objD 2 2 [(2, 1), (1, 2)] [(2, 1), (1, 2)])) := by kernel_rfl
theorem pb_2_2_0 : okO (D_lawB ⟨loc2 2 0, cel1⟩ (stoOf (objD 2 2 [(2, 1), (1, 2)] [(2, 1), (1, 2)]))) = true := by kernel_rfl
theorem pb_2_2_1 : okO (D_lawB ⟨loc2 2 1, cel1⟩ (stoOf (objD 2 2 [(2, 1), (1, 2)] [(2, 1), (1, 2)]))) = true := by kernel_rfl
theorem ck_2_3 (a b : Int) : D_chk (ret .next) ⟨loc2 a b, cel1⟩ (stoOf (objD 2 3 [(2, 1), (1, 2)] [(3, 1), (1, 3)])) = some (.next, ⟨loc2 a b, cel1⟩, stoOf (objD 2 3 [(2, 1), (1, 2)] [(3, 1), (1, 3)])) := by kernel_rfl
theorem pb_2_3_0 : okO (D_lawB ⟨loc2 3 0, cel1⟩ (stoOf (objD 2 3 [(2, 1), (1, 2)] [(3, 1), (1, 3)]))) = true := by kernel_rfl
theorem pb_2_3_1 : okO (D_lawB ⟨loc2 3 1, cel1⟩ (stoOf (objD 2 3 [(2, 1), (1, 2)] [(3, 1), (1, 3)]))) = true := by kernel_rfl
theorem pb_2_3_2 : okO (D_lawB ⟨loc2 3 2, cel1⟩ (stoOf (objD 2 3 [(2, 1), (1, 2)] [(3, 1), (1, 3)]))) = true := by kernel_rfl
theorem ck_2_4 (a b : Int) : D_chk (ret .next) ⟨loc2 a b, cel1⟩ (stoOf (objD 2 4 [(2, 1), (1, 2)] [(4, 1), (2, 2), (1, 4)])) = some (.next, ⟨loc2 a b, cel1⟩, stoOf (objD 2 4 [(2, 1), (1, 2)] [(4, 1), (2, 2), (1, 4)])) := by kernel_rfl
theorem pb_2_4_0 : okO (D_lawB ⟨loc2 4 0, cel1⟩ (stoOf (objD 2 4 [(2, 1), (1, 2)] [(4, 1), (2, 2), (1, 4)]))) = true := by kernel_rfl
theorem pb_2_4_1 : okO (D_lawB ⟨loc2 4 1, cel1⟩ (stoOf (objD 2 4 [(2, 1), (1, 2)] [(4, 1), (2, 2), (1, 4)]))) = true := by kernel_rfl
theorem pb_2_4_2 : okO (D_lawB ⟨loc2 4 2, cel1⟩ (stoOf (objD 2 4 [(2, 1), (1, 2)] [(4, 1), (2, 2), (1, 4)]))) = true := by kernel_rfl
theorem pb_2_4_3 : okO (D_lawB ⟨loc2 4 3, cel1⟩ (stoOf (objD 2 4 [(2, 1), (1, 2)] [(4, 1), (2, 2), (1, 4)]))) = true := by kernel_rfl
theorem ck_3_1 (a b : Int) : D_chk (ret .next) ⟨loc2 a b, cel1⟩ (stoOf (objD 3 1 [(3, 1), (1, 3)] [(1, 1)])) = some (.next, ⟨loc2 a b, cel1⟩, stoOf (objD 3 1 [(3, 1), (1, 3)] [(1, 1)])) := by kernel_rfl
theorem pb_3_1_0 : okO (D_lawB ⟨loc2 1 0, cel1⟩ (stoOf (objD 3 1 [(3, 1), (1, 3)] [(1, 1)]))) = true := by kernel_rfl
theorem ck_3_2 (a b : Int) : D_chk (ret .next) ⟨loc2 a b, cel1⟩ (stoOf (objD 3 2 [(3, 1), (1, 3)] [(2, 1), (1, 2)])) = some (.next, ⟨loc2 a b, cel1⟩, stoOf (objD 3 2 [(3, 1), (1, 3)] [(2, 1), (1, 2)])) := by kernel_rfl
theorem pb_3_2_0 : okO (D_lawB ⟨loc2 2 0, cel1⟩ (stoOf (objD 3 2 [(3, 1), (1, 3)] [(2, 1), (1, 2)]))) = true := by kernel_rfl
theorem pb_3_2_1 : okO (D_lawB ⟨loc2 2 1, cel1⟩ (stoOf (objD 3 2 [(3, 1), (1, 3)] [(2, 1), (1, 2)]))) = true := by kernel_rfl
theorem ck_3_3 (a b : Int) : D_chk (ret .next) ⟨loc2 a b, cel1⟩ (stoOf (objD 3 3 [(3, 1), (1, 3)] [(3, 1), (1, 3)])) = some (.next, ⟨loc2 a b, cel1⟩, stoOf (objD 3 3 [(3, 1), (1, 3)] [(3, 1), (1, 3)])) := by kernel_rfl
theorem pb_3_3_0 : okO (D_lawB ⟨loc2 3 0, cel1⟩ (stoOf (objD 3 3 [(3, 1), (1, 3)] [(3, 1), (1, 3)]))) = true := by kernel_rfl
theorem pb_3_3_1 : okO (D_lawB ⟨loc2 3 1, cel1⟩ (stoOf (objD 3 3 [(3, 1), (1, 3)] [(3, 1), (1, 3)]))) = true := by kernel_rfl
theorem pb_3_3_2 : okO (D_lawB ⟨loc2 3 2, cel1⟩ (stoOf (objD 3 3 [(3, 1), (1, 3)] [(3, 1), (1, 3)]))) = true := by kernel_rfl
theorem ck_4_1 (a b : Int) : D_chk (ret .next) ⟨loc2 a b, cel1⟩ (stoOf (objD 4 1 [(4, 1), (2, 2), (1, 4)] [(1, 1)])) = some (.next, ⟨loc2 a b, cel1⟩, stoOf (objD 4 1 [(4, 1), (2, 2), (1, 4)] [(1, 1)])) := by kernel_rfl
theorem pb_4_1_0 : okO (D_lawB ⟨loc2 1 0, cel1⟩ (stoOf (objD 4 1 [(4, 1), (2, 2), (1, 4)] [(1, 1)]))) = true := by kernel_rfl
theorem ck_4_2 (a b : Int) : D_chk (ret .next) ⟨loc2 a b, cel1⟩ (stoOf (objD 4 2 [(4, 1), (2, 2), (1, 4)] [(2, 1), (1, 2)])) = some (.next, ⟨loc2 a b, cel1⟩, stoOf (objD 4 2 [(4, 1), (2, 2), (1, 4)] [(2, 1), (1, 2)])) := by kernel_rfl
theorem pb_4_2_0 : okO (D_lawB ⟨loc2 2 0, cel1⟩ (stoOf (objD 4 2 [(4, 1), (2, 2), (1, 4)] [(2, 1), (1, 2)]))) = true := by kernel_rfl
theorem pb_4_2_1 : okO (D_lawB ⟨loc2 2 1, cel1⟩ (stoOf (objD 4 2 [(4, 1), (2, 2), (1, 4)] [(2, 1), (1, 2)]))) = true := by kernel_rfl

theorem seq_next {d e : Mo Fl} {ρ ρ' : Loc} {σ σ' : Sto} (h : seqM d e ρ σ = some (.next, ρ', σ')) : ∃ ρ₁ σ₁, d ρ σ = some (.next, ρ₁, σ₁) ∧ e ρ₁ σ₁ = some (.next, ρ', σ') := by
  obtain ⟨f, ρ₁, σ₁, e1, e2⟩ := bnd_some h
  cases f with
  | next => exact ⟨ρ₁, σ₁, e1, e2⟩
  | brk => cases e2
  | cont => cases e2
  | ret v => cases e2
theorem seq_go {d e : Mo Fl} {ρ ρ₁ : Loc} {σ σ₁ : Sto} (h : d ρ σ = some (.next, ρ₁, σ₁)) : seqM d e ρ σ = e ρ₁ σ₁ := by
  unfold seqM bnd
  rw [h]
theorem norm_cont {ks : List Nat} {e : Mo Fl} {ρ ρ' : Loc} {σ σ' : Sto} (h : normM ks (ret .next) ρ σ = some (.next, ρ', σ')) : normM ks e ρ σ = e ρ' σ' := by
  dsimp only [normM, normF] at h ⊢
  refine gB h fun h1 h => oB_elim h fun os h2 h => oB_elim h fun l h3 h => oB_elim h fun c h4 h => oB_elim h fun σ₁ hm h => ?_
  cases h
  rw [h1, h2, h3, h4]
  dsimp only [oB]
  rw [hm]
theorem far_cont {e : Mo Fl} {ρ ρ' : Loc} {σ σ' : Sto} (h : D_far (ret .next) ρ σ = some (.next, ρ', σ')) : D_far e ρ σ = e ρ' σ' := by
  dsimp only [D_far] at h ⊢
  obtain ⟨ρ₁, σ₁, e1, h⟩ := seq_next h
  exact (seq_go e1).trans (norm_cont h)
theorem clo_cont {e : Mo Fl} {ρ ρ' : Loc} {σ σ' : Sto} (h : D_clo (ret .next) ρ σ = some (.next, ρ', σ')) : D_clo e ρ σ = e ρ' σ' := by
  dsimp only [D_clo] at h ⊢
  obtain ⟨ρ₁, σ₁, e1, h⟩ := seq_next h
  exact (seq_go e1).trans (norm_cont h)
theorem chk_cont {e : Mo Fl} {ρ ρ' : Loc} {σ σ' : Sto} (h : D_chk (ret .next) ρ σ = some (.next, ρ', σ')) : D_chk e ρ σ = e ρ' σ' := by
  dsimp only [D_chk] at h ⊢
  obtain ⟨ρ₁, σ₁, e1, h⟩ := seq_next h
  obtain ⟨ρ₂, σ₂, e2, h⟩ := seq_next h
  exact (seq_go e1).trans ((seq_go e2).trans (norm_cont h))
theorem ok_some {r : Option (Fl × Loc × Sto)} (h : okO r = true) : ∃ ρ σ, r = some (.ret (.bool true), ρ, σ) ∧ okT σ 0 0 = true ∧ okT σ 1 3 = true := by
  unfold okO at h
  split at h
  · split at h
    · rename_i e; exact ⟨_, _, rfl, e, h⟩
    · cases h
  · cases h
noncomputable def st0 : Sto := stoOf [.fn 0 [0], .fn 3 [1], .cell none, .cell none, .cell none, .cell none, .cell none]
noncomputable def loc0 (la : Nat) : Loc := ⟨[(58, .wr (.ref la))], cel1⟩
noncomputable def stH (c2 c3 : Option AV) (z0 z1 z2 z3 : Int) (n : Nat) : Sto := stoOf [.fn 0 [0], .fn 3 [1], .cell c2, .cell c3, .cell none, .cell none, .cell none, .list [.lin 0 z0, .lin 0 z1, .lin 0 z2, .lin 0 z3], .rng 0 0 n]
noncomputable def locH (la : Nat) (r : List (Nat × AV)) : Loc := ⟨(58, .wr (.ref la)) :: (59, .ref 7) :: r, cel1⟩
theorem h1 (la : Nat) (l : List Int) (z0 z1 z2 z3 : Int) (hl : l.length ≤ 63) (hz : cellsZ l 0 [1, 1, 5, 37] = [z0, z1, z2, z3]) : D_s1 la l (loc0 la) st0 = some (.next, locH la [], stH none none z0 z1 z2 z3 l.length) := by
  have e : F_law_cells la l [.wr (.ref la)] st0 = some (.ref 7, stH none none z0 z1 z2 z3 l.length) := by
    show (match Nat.beq la la, Nat.ble l.length 63, Nat.ble 7 900000 with
      | true, true, true => match st0.new (.list (linL (cellsZ l 0 [1, 1, 5, 37]))) with
        | some (k', σ') => match σ'.new (.rng 0 0 l.length) with
          | some (_, σ'') => some (AV.ref k', σ'')
          | none => none
        | none => none
      | _, _, _ => none) = _
    rw [Nat.ble_eq_true_of_le hl, hz, Nat.beq_refl]
    rfl
  simp only [D_s1, bnd, dLoc, loc0, look, Nat.beq, ret, apF, e, putL, lput]
  rfl
theorem h2 (la : Nat) (z0 z1 z2 z3 : Int) (n : Nat) : D_s2 (locH la []) (stH none none z0 z1 z2 z3 n) = some (.next, locH la [], stH (some (.lin 0 (1 + Int.fmod z0 4))) none z0 z1 z2 z3 n) := by kernel_rfl
theorem h4 (c2 c3 : Option AV) (la : Nat) (z0 z1 z2 z3 : Int) (n : Nat) : D_s4 (locH la []) (stH c2 c3 z0 z1 z2 z3 n) = some (.next, locH la [(61, .lin 0 (Int.fmod z2 3))], stH c2 c3 z0 z1 z2 z3 n) := by kernel_rfl
theorem h5 (c2 c3 : Option AV) (la : Nat) (z0 z1 z2 z3 bh : Int) (n : Nat) : D_s5 (locH la [(61, .lin 0 bh)]) (stH c2 c3 z0 z1 z2 z3 n) = some (.next, locH la [(61, .lin 0 bh), (60, .lin 0 (1 + Int.fmod (Int.fdiv z2 3) 3))], stH c2 c3 z0 z1 z2 z3 n) := by kernel_rfl
theorem h6 (c2 c3 : Option AV) (la : Nat) (z0 z1 z2 z3 bh t : Int) (n : Nat) : D_s6 (locH la [(61, .lin 0 bh), (60, .lin 0 t)]) (stH c2 c3 z0 z1 z2 z3 n) = some (.next, locH la [(61, .lin 0 bh), (60, .lin 0 t), (35, .lin 0 (Int.fmod z3 5000))], stH c2 c3 z0 z1 z2 z3 n) := by kernel_rfl
theorem h7 (la : Nat) (σ : Sto) (bh t s q a b : Int) (d : Mo Fl) (h : s = a * q + b) : reLoc 35 q a b d (locH la [(61, .lin 0 bh), (60, .lin 0 t), (35, .lin 0 s)]) σ = d (locH la [(61, .lin 0 bh), (60, .lin 0 t), (35, .lin a b)]) σ := by
  show (match isZ 0, intB s (a * q + b) with | true, true => d _ σ | _, _ => none) = _
  rw [show intB s (a * q + b) = true from decide_eq_true h]
  rfl
theorem h3_1 (la : Nat) (z0 z1 z2 z3 : Int) (n : Nat) : D_s3 (locH la []) (stH (some (.lin 0 1)) none z0 z1 z2 z3 n) = some (.next, locH la [], stH (some (.lin 0 1)) (some (.lin 0 (1 + Int.fmod z1 5))) z0 z1 z2 z3 n) := by kernel_rfl
theorem h3_2 (la : Nat) (z0 z1 z2 z3 : Int) (n : Nat) : D_s3 (locH la []) (stH (some (.lin 0 2)) none z0 z1 z2 z3 n) = some (.next, locH la [], stH (some (.lin 0 2)) (some (.lin 0 (1 + Int.fmod z1 4))) z0 z1 z2 z3 n) := by kernel_rfl
theorem h3_3 (la : Nat) (z0 z1 z2 z3 : Int) (n : Nat) : D_s3 (locH la []) (stH (some (.lin 0 3)) none z0 z1 z2 z3 n) = some (.next, locH la [], stH (some (.lin 0 3)) (some (.lin 0 (1 + Int.fmod z1 3))) z0 z1 z2 z3 n) := by kernel_rfl
theorem h3_4 (la : Nat) (z0 z1 z2 z3 : Int) (n : Nat) : D_s3 (locH la []) (stH (some (.lin 0 4)) none z0 z1 z2 z3 n) = some (.next, locH la [], stH (some (.lin 0 4)) (some (.lin 0 (1 + Int.fmod z1 2))) z0 z1 z2 z3 n) := by kernel_rfl
theorem nine {P : Int → Int → Prop} (a01 : P 0 1) (a02 : P 0 2) (a03 : P 0 3) (a11 : P 1 1) (a12 : P 1 2) (a13 : P 1 3) (a21 : P 2 1) (a22 : P 2 2) (a23 : P 2 3) (bh t : Int) (h : (bh = 0 ∨ bh = 1 ∨ bh = 2) ∧ (t = 1 ∨ t = 2 ∨ t = 3)) : P bh t := by
  obtain ⟨hb, ht⟩ := h
  rcases hb with rfl | rfl | rfl <;> rcases ht with rfl | rfl | rfl <;> assumption
theorem ones1 {P : Int → Prop} (h0 : P 0) (r : Int) (h : r = 0) : P r := by subst h; exact h0
theorem ones2 {P : Int → Prop} (h0 : P 0) (h1 : P 1) (r : Int) (h : r = 0 ∨ r = 1) : P r := by rcases h with rfl | rfl <;> assumption
theorem ones3 {P : Int → Prop} (h0 : P 0) (h1 : P 1) (h2 : P 2) (r : Int) (h : r = 0 ∨ r = 1 ∨ r = 2) : P r := by rcases h with rfl | rfl | rfl <;> assumption
theorem ones4 {P : Int → Prop} (h0 : P 0) (h1 : P 1) (h2 : P 2) (h3 : P 3) (r : Int) (h : r = 0 ∨ r = 1 ∨ r = 2 ∨ r = 3) : P r := by rcases h with rfl | rfl | rfl | rfl <;> assumption
theorem ones5 {P : Int → Prop} (h0 : P 0) (h1 : P 1) (h2 : P 2) (h3 : P 3) (h4 : P 4) (r : Int) (h : r = 0 ∨ r = 1 ∨ r = 2 ∨ r = 3 ∨ r = 4) : P r := by rcases h with rfl | rfl | rfl | rfl | rfl <;> assumption
noncomputable abbrev BT (bh t : Int) : Prop := (bh = 0 ∨ bh = 1 ∨ bh = 2) ∧ (t = 1 ∨ t = 2 ∨ t = 3)
noncomputable abbrev FA (o : Int) (m : List (Int × Int)) : Prop := ∀ bh t : Int, BT bh t → ∀ i a b : Int, D_far (ret .next) ⟨loc1 bh t a b, cel1⟩ (stoOf (obj1 o i)) = some (.next, ⟨locN bh t a b, cel1⟩, stoOf (objN o i m))
noncomputable abbrev CL (o i : Int) (m k : List (Int × Int)) : Prop := ∀ bh t : Int, BT bh t → ∀ a b : Int, D_clo (ret .next) ⟨locN bh t a b, cel1⟩ (stoOf (objN o i m)) = some (.next, ⟨loc2 a b, cel1⟩, stoOf (objD o i m k))
noncomputable def PW (o i : Int) (R : Int → Prop) : Prop := ∀ bh t r : Int, R r → BT bh t → ∃ ρ σ, D_lawA ⟨loc1 bh t i r, cel1⟩ (stoOf (obj1 o i)) = some (.ret (.bool true), ρ, σ) ∧ okT σ 0 0 = true ∧ okT σ 1 3 = true
theorem pw_all {o i : Int} {m k : List (Int × Int)} (hf : FA o m) (hc : CL o i m k) (hk : ∀ a b : Int, D_chk (ret .next) ⟨loc2 a b, cel1⟩ (stoOf (objD o i m k)) = some (.next, ⟨loc2 a b, cel1⟩, stoOf (objD o i m k))) {R : Int → Prop}
    (hb : ∀ r, R r → okO (D_lawB ⟨loc2 i r, cel1⟩ (stoOf (objD o i m k))) = true) : PW o i R := by
  intro bh t r hr hbt
  rw [show D_lawA = D_far (D_clo (D_chk D_lawB)) from rfl, far_cont (hf bh t hbt i i r), clo_cont (hc bh t hbt i r), chk_cont (hk i r)]
  exact ok_some (hb r hr)
theorem pn (la : Nat) (o i z0 z1 z2 z3 bh t a b : Int) (n : Nat) (e : Mo Fl) : normM [61, 60, 35] e (locH la [(61, .lin 0 bh), (60, .lin 0 t), (35, .lin a b)]) (stH (some (.lin 0 o)) (some (.lin 0 i)) z0 z1 z2 z3 n) = e ⟨loc1 bh t a b, cel1⟩ (stoOf (obj1 o i)) := norm_cont (by kernel_rfl)
theorem fa_1 : FA 1 [(1, 1)] := nine fa_1_0_1 fa_1_0_2 fa_1_0_3 fa_1_1_1 fa_1_1_2 fa_1_1_3 fa_1_2_1 fa_1_2_2 fa_1_2_3
theorem fa_2 : FA 2 [(2, 1), (1, 2)] := nine fa_2_0_1 fa_2_0_2 fa_2_0_3 fa_2_1_1 fa_2_1_2 fa_2_1_3 fa_2_2_1 fa_2_2_2 fa_2_2_3
theorem fa_3 : FA 3 [(3, 1), (1, 3)] := nine fa_3_0_1 fa_3_0_2 fa_3_0_3 fa_3_1_1 fa_3_1_2 fa_3_1_3 fa_3_2_1 fa_3_2_2 fa_3_2_3
theorem fa_4 : FA 4 [(4, 1), (2, 2), (1, 4)] := nine fa_4_0_1 fa_4_0_2 fa_4_0_3 fa_4_1_1 fa_4_1_2 fa_4_1_3 fa_4_2_1 fa_4_2_2 fa_4_2_3
theorem cl_1_1 (o p0 q0 : Int) : CL o 1 [(p0, q0)] [(1, 1)] := nine (cl_1_1_0_1 o p0 q0) (cl_1_1_0_2 o p0 q0) (cl_1_1_0_3 o p0 q0) (cl_1_1_1_1 o p0 q0) (cl_1_1_1_2 o p0 q0) (cl_1_1_1_3 o p0 q0) (cl_1_1_2_1 o p0 q0) (cl_1_1_2_2 o p0 q0) (cl_1_1_2_3 o p0 q0)
theorem cl_1_2 (o p0 q0 : Int) : CL o 2 [(p0, q0)] [(2, 1), (1, 2)] := nine (cl_1_2_0_1 o p0 q0) (cl_1_2_0_2 o p0 q0) (cl_1_2_0_3 o p0 q0) (cl_1_2_1_1 o p0 q0) (cl_1_2_1_2 o p0 q0) (cl_1_2_1_3 o p0 q0) (cl_1_2_2_1 o p0 q0) (cl_1_2_2_2 o p0 q0) (cl_1_2_2_3 o p0 q0)
theorem cl_1_3 (o p0 q0 : Int) : CL o 3 [(p0, q0)] [(3, 1), (1, 3)] := nine (cl_1_3_0_1 o p0 q0) (cl_1_3_0_2 o p0 q0) (cl_1_3_0_3 o p0 q0) (cl_1_3_1_1 o p0 q0) (cl_1_3_1_2 o p0 q0) (cl_1_3_1_3 o p0 q0) (cl_1_3_2_1 o p0 q0) (cl_1_3_2_2 o p0 q0) (cl_1_3_2_3 o p0 q0)
theorem cl_1_4 (o p0 q0 : Int) : CL o 4 [(p0, q0)] [(4, 1), (2, 2), (1, 4)] := nine (cl_1_4_0_1 o p0 q0) (cl_1_4_0_2 o p0 q0) (cl_1_4_0_3 o p0 q0) (cl_1_4_1_1 o p0 q0) (cl_1_4_1_2 o p0 q0) (cl_1_4_1_3 o p0 q0) (cl_1_4_2_1 o p0 q0) (cl_1_4_2_2 o p0 q0) (cl_1_4_2_3 o p0 q0)
theorem cl_1_5 (o p0 q0 : Int) : CL o 5 [(p0, q0)] [(5, 1), (1, 5)] := nine (cl_1_5_0_1 o p0 q0) (cl_1_5_0_2 o p0 q0) (cl_1_5_0_3 o p0 q0) (cl_1_5_1_1 o p0 q0) (cl_1_5_1_2 o p0 q0) (cl_1_5_1_3 o p0 q0) (cl_1_5_2_1 o p0 q0) (cl_1_5_2_2 o p0 q0) (cl_1_5_2_3 o p0 q0)
theorem cl_2_1 (o p0 q0 p1 q1 : Int) : CL o 1 [(p0, q0), (p1, q1)] [(1, 1)] := nine (cl_2_1_0_1 o p0 q0 p1 q1) (cl_2_1_0_2 o p0 q0 p1 q1) (cl_2_1_0_3 o p0 q0 p1 q1) (cl_2_1_1_1 o p0 q0 p1 q1) (cl_2_1_1_2 o p0 q0 p1 q1) (cl_2_1_1_3 o p0 q0 p1 q1) (cl_2_1_2_1 o p0 q0 p1 q1) (cl_2_1_2_2 o p0 q0 p1 q1) (cl_2_1_2_3 o p0 q0 p1 q1)
theorem cl_2_2 (o p0 q0 p1 q1 : Int) : CL o 2 [(p0, q0), (p1, q1)] [(2, 1), (1, 2)] := nine (cl_2_2_0_1 o p0 q0 p1 q1) (cl_2_2_0_2 o p0 q0 p1 q1) (cl_2_2_0_3 o p0 q0 p1 q1) (cl_2_2_1_1 o p0 q0 p1 q1) (cl_2_2_1_2 o p0 q0 p1 q1) (cl_2_2_1_3 o p0 q0 p1 q1) (cl_2_2_2_1 o p0 q0 p1 q1) (cl_2_2_2_2 o p0 q0 p1 q1) (cl_2_2_2_3 o p0 q0 p1 q1)
theorem cl_2_3 (o p0 q0 p1 q1 : Int) : CL o 3 [(p0, q0), (p1, q1)] [(3, 1), (1, 3)] := nine (cl_2_3_0_1 o p0 q0 p1 q1) (cl_2_3_0_2 o p0 q0 p1 q1) (cl_2_3_0_3 o p0 q0 p1 q1) (cl_2_3_1_1 o p0 q0 p1 q1) (cl_2_3_1_2 o p0 q0 p1 q1) (cl_2_3_1_3 o p0 q0 p1 q1) (cl_2_3_2_1 o p0 q0 p1 q1) (cl_2_3_2_2 o p0 q0 p1 q1) (cl_2_3_2_3 o p0 q0 p1 q1)
theorem cl_2_4 (o p0 q0 p1 q1 : Int) : CL o 4 [(p0, q0), (p1, q1)] [(4, 1), (2, 2), (1, 4)] := nine (cl_2_4_0_1 o p0 q0 p1 q1) (cl_2_4_0_2 o p0 q0 p1 q1) (cl_2_4_0_3 o p0 q0 p1 q1) (cl_2_4_1_1 o p0 q0 p1 q1) (cl_2_4_1_2 o p0 q0 p1 q1) (cl_2_4_1_3 o p0 q0 p1 q1) (cl_2_4_2_1 o p0 q0 p1 q1) (cl_2_4_2_2 o p0 q0 p1 q1) (cl_2_4_2_3 o p0 q0 p1 q1)
theorem cl_3_1 (o p0 q0 p1 q1 p2 q2 : Int) : CL o 1 [(p0, q0), (p1, q1), (p2, q2)] [(1, 1)] := nine (cl_3_1_0_1 o p0 q0 p1 q1 p2 q2) (cl_3_1_0_2 o p0 q0 p1 q1 p2 q2) (cl_3_1_0_3 o p0 q0 p1 q1 p2 q2) (cl_3_1_1_1 o p0 q0 p1 q1 p2 q2) (cl_3_1_1_2 o p0 q0 p1 q1 p2 q2) (cl_3_1_1_3 o p0 q0 p1 q1 p2 q2) (cl_3_1_2_1 o p0 q0 p1 q1 p2 q2) (cl_3_1_2_2 o p0 q0 p1 q1 p2 q2) (cl_3_1_2_3 o p0 q0 p1 q1 p2 q2)
theorem cl_3_2 (o p0 q0 p1 q1 p2 q2 : Int) : CL o 2 [(p0, q0), (p1, q1), (p2, q2)] [(2, 1), (1, 2)] := nine (cl_3_2_0_1 o p0 q0 p1 q1 p2 q2) (cl_3_2_0_2 o p0 q0 p1 q1 p2 q2) (cl_3_2_0_3 o p0 q0 p1 q1 p2 q2) (cl_3_2_1_1 o p0 q0 p1 q1 p2 q2) (cl_3_2_1_2 o p0 q0 p1 q1 p2 q2) (cl_3_2_1_3 o p0 q0 p1 q1 p2 q2) (cl_3_2_2_1 o p0 q0 p1 q1 p2 q2) (cl_3_2_2_2 o p0 q0 p1 q1 p2 q2) (cl_3_2_2_3 o p0 q0 p1 q1 p2 q2)
theorem pw_1_1 : PW 1 1 fun r => r = 0 := pw_all fa_1 (cl_1_1 1 1 1) ck_1_1 (ones1 pb_1_1_0)
theorem pw_1_2 : PW 1 2 fun r => r = 0 ∨ r = 1 := pw_all fa_1 (cl_1_2 1 1 1) ck_1_2 (ones2 pb_1_2_0 pb_1_2_1)
theorem pw_1_3 : PW 1 3 fun r => r = 0 ∨ r = 1 ∨ r = 2 := pw_all fa_1 (cl_1_3 1 1 1) ck_1_3 (ones3 pb_1_3_0 pb_1_3_1 pb_1_3_2)
theorem pw_1_4 : PW 1 4 fun r => r = 0 ∨ r = 1 ∨ r = 2 ∨ r = 3 := pw_all fa_1 (cl_1_4 1 1 1) ck_1_4 (ones4 pb_1_4_0 pb_1_4_1 pb_1_4_2 pb_1_4_3)
theorem pw_1_5 : PW 1 5 fun r => r = 0 ∨ r = 1 ∨ r = 2 ∨ r = 3 ∨ r = 4 := pw_all fa_1 (cl_1_5 1 1 1) ck_1_5 (ones5 pb_1_5_0 pb_1_5_1 pb_1_5_2 pb_1_5_3 pb_1_5_4)
theorem pw_2_1 : PW 2 1 fun r => r = 0 := pw_all fa_2 (cl_2_1 2 2 1 1 2) ck_2_1 (ones1 pb_2_1_0)
theorem pw_2_2 : PW 2 2 fun r => r = 0 ∨ r = 1 := pw_all fa_2 (cl_2_2 2 2 1 1 2) ck_2_2 (ones2 pb_2_2_0 pb_2_2_1)
theorem pw_2_3 : PW 2 3 fun r => r = 0 ∨ r = 1 ∨ r = 2 := pw_all fa_2 (cl_2_3 2 2 1 1 2) ck_2_3 (ones3 pb_2_3_0 pb_2_3_1 pb_2_3_2)
theorem pw_2_4 : PW 2 4 fun r => r = 0 ∨ r = 1 ∨ r = 2 ∨ r = 3 := pw_all fa_2 (cl_2_4 2 2 1 1 2) ck_2_4 (ones4 pb_2_4_0 pb_2_4_1 pb_2_4_2 pb_2_4_3)
theorem pw_3_1 : PW 3 1 fun r => r = 0 := pw_all fa_3 (cl_2_1 3 3 1 1 3) ck_3_1 (ones1 pb_3_1_0)
theorem pw_3_2 : PW 3 2 fun r => r = 0 ∨ r = 1 := pw_all fa_3 (cl_2_2 3 3 1 1 3) ck_3_2 (ones2 pb_3_2_0 pb_3_2_1)
theorem pw_3_3 : PW 3 3 fun r => r = 0 ∨ r = 1 ∨ r = 2 := pw_all fa_3 (cl_2_3 3 3 1 1 3) ck_3_3 (ones3 pb_3_3_0 pb_3_3_1 pb_3_3_2)
theorem pw_4_1 : PW 4 1 fun r => r = 0 := pw_all fa_4 (cl_3_1 4 4 1 2 2 1 4) ck_4_1 (ones1 pb_4_1_0)
theorem pw_4_2 : PW 4 2 fun r => r = 0 ∨ r = 1 := pw_all fa_4 (cl_3_2 4 4 1 2 2 1 4) ck_4_2 (ones2 pb_4_2_0 pb_4_2_1)

theorem fmodR (z : Int) (n : Int) (h : 0 < n) : 0 ≤ Int.fmod z n ∧ Int.fmod z n < n := ⟨Int.fmod_nonneg_of_pos z h, Int.fmod_lt_of_pos z h⟩
noncomputable def Good (la : Nat) (zs : List Int) : Prop := ∃ q a b ρ σ, (0 ≤ q ∧ q ≤ 1048576) ∧ D_law la zs q a b (loc0 la) st0 = some (.ret (.bool true), ρ, σ) ∧ okT σ 0 0 = true ∧ okT σ 1 3 = true
theorem tail (la : Nat) (zs : List Int) (z0 z1 z2 z3 o i : Int) (hl : zs.length ≤ 63) (hz : cellsZ zs 0 [1, 1, 5, 37] = [z0, z1, z2, z3]) (ho : 1 + Int.fmod z0 4 = o) (hi : 0 < i ∧ i ≤ 5)
    (h3 : ∀ n, D_s3 (locH la []) (stH (some (.lin 0 o)) none z0 z1 z2 z3 n) = some (.next, locH la [], stH (some (.lin 0 o)) (some (.lin 0 i)) z0 z1 z2 z3 n))
    (pw : PW o i fun r => 0 ≤ r ∧ r < i) : Good la zs := by
  have hs := fmodR z3 5000 (by decide)
  have hr := fmodR (Int.fmod z3 5000) i hi.1
  have hb := fmodR z2 3 (by decide)
  have ht := fmodR (Int.fdiv z2 3) 3 (by decide)
  have hq : Int.fmod z3 5000 = i * Int.fdiv (Int.fmod z3 5000) i + Int.fmod (Int.fmod z3 5000) i := by
    have := Int.fmod_add_mul_fdiv (Int.fmod z3 5000) i
    lia
  obtain ⟨ρ, σ, e, t0, t1⟩ := pw (Int.fmod z2 3) (1 + Int.fmod (Int.fdiv z2 3) 3) (Int.fmod (Int.fmod z3 5000) i) hr (by lia)
  refine ⟨Int.fdiv (Int.fmod z3 5000) i, i, Int.fmod (Int.fmod z3 5000) i, ρ, σ, ⟨Int.fdiv_nonneg hs.1 (Int.le_of_lt hi.1), ?_⟩, ?_, t0, t1⟩
  · have := Int.fdiv_nonneg hs.1 (Int.le_of_lt hi.1)
    have h2 : 1 * Int.fdiv (Int.fmod z3 5000) i ≤ i * Int.fdiv (Int.fmod z3 5000) i := Int.mul_le_mul_of_nonneg_right (by lia) this
    lia
  · unfold D_law
    rw [seq_go (h1 la zs z0 z1 z2 z3 hl hz), seq_go (h2 la z0 z1 z2 z3 _), ho, seq_go (h3 _), seq_go (h4 ..), seq_go (h5 ..), seq_go (h6 ..), h7 la _ _ _ _ _ _ _ _ hq, pn]
    exact e
theorem good (la : Nat) (zs : List Int) (hl : zs.length ≤ 63) : Good la zs := by
  have hlen := cellsZ_len zs 0 [1, 1, 5, 37]
  obtain ⟨z0, z1, z2, z3, hz⟩ : ∃ z0 z1 z2 z3, cellsZ zs 0 [1, 1, 5, 37] = [z0, z1, z2, z3] := by
    match h : cellsZ zs 0 [1, 1, 5, 37], hlen with
    | [z0, z1, z2, z3], _ => exact ⟨z0, z1, z2, z3, rfl⟩
  have ho := fmodR z0 4 (by decide)
  have h : ∀ o, 1 + Int.fmod z0 4 = o → 1 ≤ o ∧ o ≤ 4 := fun o e => by lia
  have ho4 : Int.fmod z0 4 = 0 ∨ Int.fmod z0 4 = 1 ∨ Int.fmod z0 4 = 2 ∨ Int.fmod z0 4 = 3 := by lia
  rcases ho4 with e | e | e | e
  · have ho' : 1 + Int.fmod z0 4 = 1 := by lia
    have hi := fmodR z1 5 (by decide)
    have hi' : Int.fmod z1 5 = 0 ∨ Int.fmod z1 5 = 1 ∨ Int.fmod z1 5 = 2 ∨ Int.fmod z1 5 = 3 ∨ Int.fmod z1 5 = 4 := by lia
    rcases hi' with f | f | f | f | f
    · exact tail la zs z0 z1 z2 z3 1 1 hl hz ho' (by decide) (fun n => (h3_1 la z0 z1 z2 z3 n).trans (by rw [f]; rfl)) fun bh t r hr hb => pw_1_1 bh t r (by lia) hb
    · exact tail la zs z0 z1 z2 z3 1 2 hl hz ho' (by decide) (fun n => (h3_1 la z0 z1 z2 z3 n).trans (by rw [f]; rfl)) fun bh t r hr hb => pw_1_2 bh t r (by lia) hb
    · exact tail la zs z0 z1 z2 z3 1 3 hl hz ho' (by decide) (fun n => (h3_1 la z0 z1 z2 z3 n).trans (by rw [f]; rfl)) fun bh t r hr hb => pw_1_3 bh t r (by lia) hb
    · exact tail la zs z0 z1 z2 z3 1 4 hl hz ho' (by decide) (fun n => (h3_1 la z0 z1 z2 z3 n).trans (by rw [f]; rfl)) fun bh t r hr hb => pw_1_4 bh t r (by lia) hb
    · exact tail la zs z0 z1 z2 z3 1 5 hl hz ho' (by decide) (fun n => (h3_1 la z0 z1 z2 z3 n).trans (by rw [f]; rfl)) fun bh t r hr hb => pw_1_5 bh t r (by lia) hb
  · have ho' : 1 + Int.fmod z0 4 = 2 := by lia
    have hi := fmodR z1 4 (by decide)
    have hi' : Int.fmod z1 4 = 0 ∨ Int.fmod z1 4 = 1 ∨ Int.fmod z1 4 = 2 ∨ Int.fmod z1 4 = 3 := by lia
    rcases hi' with f | f | f | f
    · exact tail la zs z0 z1 z2 z3 2 1 hl hz ho' (by decide) (fun n => (h3_2 la z0 z1 z2 z3 n).trans (by rw [f]; rfl)) fun bh t r hr hb => pw_2_1 bh t r (by lia) hb
    · exact tail la zs z0 z1 z2 z3 2 2 hl hz ho' (by decide) (fun n => (h3_2 la z0 z1 z2 z3 n).trans (by rw [f]; rfl)) fun bh t r hr hb => pw_2_2 bh t r (by lia) hb
    · exact tail la zs z0 z1 z2 z3 2 3 hl hz ho' (by decide) (fun n => (h3_2 la z0 z1 z2 z3 n).trans (by rw [f]; rfl)) fun bh t r hr hb => pw_2_3 bh t r (by lia) hb
    · exact tail la zs z0 z1 z2 z3 2 4 hl hz ho' (by decide) (fun n => (h3_2 la z0 z1 z2 z3 n).trans (by rw [f]; rfl)) fun bh t r hr hb => pw_2_4 bh t r (by lia) hb
  · have ho' : 1 + Int.fmod z0 4 = 3 := by lia
    have hi := fmodR z1 3 (by decide)
    have hi' : Int.fmod z1 3 = 0 ∨ Int.fmod z1 3 = 1 ∨ Int.fmod z1 3 = 2 := by lia
    rcases hi' with f | f | f
    · exact tail la zs z0 z1 z2 z3 3 1 hl hz ho' (by decide) (fun n => (h3_3 la z0 z1 z2 z3 n).trans (by rw [f]; rfl)) fun bh t r hr hb => pw_3_1 bh t r (by lia) hb
    · exact tail la zs z0 z1 z2 z3 3 2 hl hz ho' (by decide) (fun n => (h3_3 la z0 z1 z2 z3 n).trans (by rw [f]; rfl)) fun bh t r hr hb => pw_3_2 bh t r (by lia) hb
    · exact tail la zs z0 z1 z2 z3 3 3 hl hz ho' (by decide) (fun n => (h3_3 la z0 z1 z2 z3 n).trans (by rw [f]; rfl)) fun bh t r hr hb => pw_3_3 bh t r (by lia) hb
  · have ho' : 1 + Int.fmod z0 4 = 4 := by lia
    have hi := fmodR z1 2 (by decide)
    have hi' : Int.fmod z1 2 = 0 ∨ Int.fmod z1 2 = 1 := by lia
    rcases hi' with f | f
    · exact tail la zs z0 z1 z2 z3 4 1 hl hz ho' (by decide) (fun n => (h3_4 la z0 z1 z2 z3 n).trans (by rw [f]; rfl)) fun bh t r hr hb => pw_4_1 bh t r (by lia) hb
    · exact tail la zs z0 z1 z2 z3 4 2 hl hz ho' (by decide) (fun n => (h3_4 la z0 z1 z2 z3 n).trans (by rw [f]; rfl)) fun bh t r hr hb => pw_4_2 bh t r (by lia) hb

noncomputable def nestOf (K : Frag) (f P : Addr) (fks : List Nat) : Nest := match K.lookup f with
  | some ⟨_, _, .func fd, _⟩ => match fd.body with
    | .stmts l => match l.findSome? (fun s => match s with | .FunctionDef name params body _ _ _ scope _ _ pos => some (⟨P, name, fd.qualname ++ ".<locals>." ++ name, params, body, scope, pos, fks⟩ : Nest) | _ => none) with
      | some N => N
      | none => ⟨P, "", "", ⟨[], [], none, [], [], none, []⟩, [], { kind := .function, names := [], isGenerator := false, isCoroutine := false }, ⟨0, 0, 0, 0⟩, fks⟩
    | _ => ⟨P, "", "", ⟨[], [], none, [], [], none, []⟩, [], { kind := .function, names := [], isGenerator := false, isCoroutine := false }, ⟨0, 0, 0, 0⟩, fks⟩
  | _ => ⟨P, "", "", ⟨[], [], none, [], [], none, []⟩, [], { kind := .function, names := [], isGenerator := false, isCoroutine := false }, ⟨0, 0, 0, 0⟩, fks⟩
noncomputable def N1 (K : Frag) : Nest := nestOf K 125 120 [30, 38, 5]
noncomputable def N2 (K : Frag) : Nest := nestOf K 132 127 [39, 38, 5]
noncomputable def fsW (K : Frag) : Nat → List Addr → Obj → Prop
  | 0 => tabP (N1 K)
  | 1 => codP (N1 K)
  | 2 => funP (N1 K)
  | 3 => tabP (N2 K)
  | 4 => codP (N2 K)
  | 5 => funP (N2 K)
  | _ => fun _ _ => False
theorem okT_get {σ : Sto} {k i : Nat} (h : okT σ k i = true) : ∃ cs, σ.get k = some (.fn i (k :: cs)) := by
  unfold okT at h
  split at h
  · rename_i j c cs e
    split at h
    · rename_i e2
      obtain rfl := Nat.eq_of_beq_eq_true e2
      obtain rfl := Nat.eq_of_beq_eq_true h
      exact ⟨cs, e⟩
    · cases h
  · cases h
theorem tab_at {W : Wo} {cx : Cx} {ads : List Addr} {ρ : Loc} {σ : Sto} {h : Heap} {N : Nest} {k i : Nat} (S : St W cx ads ρ σ h) (hf : ∀ cs o, W.fs i cs o ↔ tabP N cs o) (e : okT σ k i = true) : GrownAt N.P h := by
  obtain ⟨cs, hg⟩ := okT_get e
  obtain ⟨a, o, ha, ho, r⟩ := S.obj k _ hg
  obtain ⟨cs', hcs, r⟩ := r
  rcases (hf _ _).mp r with ⟨rfl, rfl⟩ | ⟨c, rfl, rfl⟩
  · simp only [List.map_cons, List.cons.injEq, ha] at hcs
    obtain rfl := Option.some.inj hcs.1
    exact ⟨_, ho⟩
  · simp only [List.map_cons, List.cons.injEq, ha] at hcs
    obtain rfl := Option.some.inj hcs.1
    exact ⟨_, ho⟩
theorem st0_next : st0.next = 7 := by kernel_rfl
theorem st0_get {k : Nat} {ao : AO} (h : st0.get k = some ao) : ([.fn 0 [0], .fn 3 [1], .cell none, .cell none, .cell none, .cell none, .cell none] : List AO)[k]? = some ao := by
  rcases (mkS_get [.fn 0 [0], .fn 3 [1], .cell none, .cell none, .cell none, .cell none, .cell none] ⟨0, .nil⟩ st0 (by kernel_rfl) (fun _ _ => rfl)).2 k ao h with g | ⟨_, g⟩
  · exact nomatch (show none = some ao from g)
  · exact g
theorem nd7 (n : Nat) (h : 127 < n) : [120, 127, n + 1, n + 2, n + 3, n + 4, n + 5].Nodup := by
  simp only [List.nodup_cons, List.mem_cons, List.not_mem_nil, or_false, not_or, List.nodup_nil, and_true, not_false_eq_true]
  lia
theorem look_mem {α : Type} : ∀ {l : List (Nat × α)} {k : Nat} {v : α}, look l k = some v → (k, v) ∈ l
  | [], _, _, e => nomatch e
  | (j, u) :: r, k, v, e => by
    unfold look at e
    split at e
    · rename_i hk
      cases e
      cases Nat.eq_of_beq_eq_true hk
      exact .head _
    · exact .tail _ (look_mem e)
noncomputable def ObjsAt (W : Wo) (ads : List Addr) (h : Heap) : List AO → List Addr → Prop
  | ao :: l, a :: r => (∃ o, h.get? a = some o ∧ ORw W ads ao o) ∧ ObjsAt W ads h l r
  | [], _ => True
  | _ :: _, [] => False
theorem ObjsAt.get {W : Wo} {ads : List Addr} {h : Heap} : ∀ {l : List AO} {r : List Addr}, ObjsAt W ads h l r → ∀ {k : Nat} {ao : AO}, l[k]? = some ao → ∃ a o, r[k]? = some a ∧ h.get? a = some o ∧ ORw W ads ao o
  | [], _, _, k, ao, e => nomatch e
  | ao :: l, a :: r, H, 0, _, e => by
    cases e
    obtain ⟨o, h1, h2⟩ := H.1
    exact ⟨a, o, rfl, h1, h2⟩
  | _ :: _, a :: r, H, k + 1, ao', e => ObjsAt.get H.2 e
theorem st_first {W : Wo} {cx : Cx} {h : Heap} {m : Str → Option Value} {la sz : Nat} {o0 o1 o2 o3 o4 : Obj} {A B : Nest} (hA : A.P = 120) (hB : B.P = 127) (h0 : ∀ cs o, W.fs 0 cs o ↔ tabP A cs o) (h3 : ∀ cs o, W.fs 3 cs o ↔ tabP B cs o) (hN : cx.N = sz)
    (hal : cx.al = []) (F : Fr cx.base sz h m) (hm : m "script" = some (.ref la)) (Nw : News cx.base sz h [(sz + 1 + 1 + 1 + 1 + 1, o4), (sz + 1 + 1 + 1 + 1, o3), (sz + 1 + 1 + 1, o2), (sz + 1 + 1, o1), (sz + 1, o0), (127, tabObj #[]), (120, tabObj #[])])
    (hlt : 127 < sz) (c0 : o0.data = .cell none) (c1 : o1.data = .cell none) (c2 : o2.data = .cell none) (c3 : o3.data = .cell none) (c4 : o4.data = .cell none)
    (k0 : cx.env.cells.lookup (nm 94) = some (sz + 1)) (k1 : cx.env.cells.lookup (nm 38) = some (sz + 2)) (k2 : cx.env.cells.lookup (nm 97) = some (sz + 3)) (k3 : cx.env.cells.lookup (nm 92) = some (sz + 4)) (k4 : cx.env.cells.lookup (nm 67) = some (sz + 5)) :
    St W cx [120, 127, sz + 1, sz + 2, sz + 3, sz + 4, sz + 5] (loc0 la) st0 h where
  fr := ⟨m, hN ▸ F, fun k v e => by
    cases List.mem_singleton.mp (look_mem e)
    exact ⟨by show 58 < NN; decide, _, hm, rfl⟩⟩
  cel := fun k c e => (List.forall_mem_cons.mpr ⟨⟨_, rfl, k0⟩, List.forall_mem_cons.mpr ⟨⟨_, rfl, k1⟩, List.forall_mem_cons.mpr ⟨⟨_, rfl, k2⟩, List.forall_mem_cons.mpr ⟨⟨_, rfl, k3⟩, List.forall_mem_cons.mpr ⟨⟨_, rfl, k4⟩, fun _ h => nomatch h⟩⟩⟩⟩⟩ :
    ∀ p ∈ cel1, ∃ a, [120, 127, sz + 1, sz + 2, sz + 3, sz + 4, sz + 5][p.2]? = some a ∧ cx.env.cells.lookup (nm p.1) = some a) _ (look_mem e)
  nd := nd7 sz hlt
  len := st0_next
  new := by
    obtain ⟨n4, Nw⟩ := List.forall_mem_cons.mp Nw
    obtain ⟨n3, Nw⟩ := List.forall_mem_cons.mp Nw
    obtain ⟨n2, Nw⟩ := List.forall_mem_cons.mp Nw
    obtain ⟨n1, Nw⟩ := List.forall_mem_cons.mp Nw
    obtain ⟨n0, Nw⟩ := List.forall_mem_cons.mp Nw
    obtain ⟨t1, Nw⟩ := List.forall_mem_cons.mp Nw
    obtain ⟨t0, _⟩ := List.forall_mem_cons.mp Nw
    have key : ∀ {a : Addr} {o : Obj}, h.get? a = some o ∧ a ≠ sz ∧ cx.base.get? a = none → a ≠ cx.N ∧ cx.base.get? a = none ∧ ∃ o, h.get? a = some o := fun x => ⟨hN ▸ x.2.1, x.2.2, _, x.1⟩
    exact List.forall_mem_cons.mpr ⟨key t0, List.forall_mem_cons.mpr ⟨key t1, List.forall_mem_cons.mpr ⟨key n0, List.forall_mem_cons.mpr ⟨key n1, List.forall_mem_cons.mpr ⟨key n2, List.forall_mem_cons.mpr ⟨key n3, List.forall_mem_cons.mpr ⟨key n4, fun _ h => nomatch h⟩⟩⟩⟩⟩⟩⟩
  obj := fun k ao e => by
    obtain ⟨n4, Nw⟩ := List.forall_mem_cons.mp Nw
    obtain ⟨n3, Nw⟩ := List.forall_mem_cons.mp Nw
    obtain ⟨n2, Nw⟩ := List.forall_mem_cons.mp Nw
    obtain ⟨n1, Nw⟩ := List.forall_mem_cons.mp Nw
    obtain ⟨n0, Nw⟩ := List.forall_mem_cons.mp Nw
    obtain ⟨t1, Nw⟩ := List.forall_mem_cons.mp Nw
    obtain ⟨t0, _⟩ := List.forall_mem_cons.mp Nw
    have H : ObjsAt W [120, 127, sz + 1, sz + 2, sz + 3, sz + 4, sz + 5] h [.fn 0 [0], .fn 3 [1], .cell none, .cell none, .cell none, .cell none, .cell none] [120, 127, sz + 1, sz + 2, sz + 3, sz + 4, sz + 5] := ⟨⟨_, t0.1, [120], rfl, (h0 _ _).mpr (.inl ⟨by rw [hA], rfl⟩)⟩, ⟨_, t1.1, [127], rfl, (h3 _ _).mpr (.inl ⟨by rw [hB], rfl⟩)⟩, ⟨_, n0.1, c0⟩, ⟨_, n1.1, c1⟩, ⟨_, n2.1, c2⟩, ⟨_, n3.1, c3⟩, ⟨_, n4.1, c4⟩, trivial⟩
    obtain ⟨a, o, e1, e2, e3⟩ := H.get (st0_get e)
    exact ⟨a, o, e1, e2, e3⟩
  pv := fun p hp => by rw [hal] at hp; cases hp
theorem well_list {P : Params} {h : Heap} {a : Addr} {xs : List PyData} {vs : List Value} (hw : PySem.W.Well P h (.ref a) (ofPy (.list xs))) (hL : h.IsList a vs.toArray) : h.get? a = some (listOf vs.toArray 0) := by
  obtain ⟨o, e1, e2, n, e3⟩ := hL
  generalize hd : ofPy (.list xs) = d at hw
  cases hw with
  | list hg _ =>
    rw [e1] at hg
    obtain rfl := Option.some.inj hg
    injection e3 with e3 e4
    rw [e1, e3]
  | _ => simp [ofPy] at hd
theorem ghost_at {h : Heap} {a : Addr} {vs : List Value} (e : h.get? a = some (listOf vs.toArray 0)) (hT : ∀ P ∈ [127, 120], h.get? P = some (tabObj #[])) : (ghostOf h [(131, 127), (124, 120)]).get? a = some (listOf vs.toArray 0) :=
  ghost_ne e fun hm => by
    have h2 := hT a (by simpa using hm)
    rw [e] at h2
    injection h2 with h2
    injection h2 with h2
    cases h2

theorem no_longest_run_of_spaces : ∀ k < NN, nm k ≠ ("longest_run_of_spaces" : Str) := by decide +kernel
theorem no_indent_level : ∀ k < NN, nm k ≠ ("indent_level" : Str) := by decide +kernel
theorem no_not_equal_witness : ∀ k < NN, nm k ≠ ("not_equal_witness" : Str) := by decide +kernel
theorem no_convert_string_type : ∀ k < NN, nm k ≠ ("_convert_string_type" : Str) := by decide +kernel
theorem no_items : ∀ k < NN, nm k ≠ ("items" : Str) := by decide +kernel
theorem no_add_header : ∀ k < NN, nm k ≠ ("add_header" : Str) := by decide +kernel
theorem no_get_all : ∀ k < NN, nm k ≠ ("get_all" : Str) := by decide +kernel
theorem set_at {a b : Array Nat} (h : SetNone b) (e : a = b) : SetNone a := by rw [e]; exact h
theorem main.tw10047389527955405517 : True := trivial
theorem main.tw10094358506670053839 : True := trivial
theorem main.tw10114013102757674387 : True := trivial
theorem main.tw10140136200207757160 : True := trivial
theorem main.tw10177057350305019805 : True := trivial
theorem main.tw10199874654664476236 : True := trivial
theorem main.tw10204856939554784155 : True := trivial
theorem main.tw10234815189450012239 : True := trivial
theorem main.tw10298723112805639129 : True := trivial
theorem main.tw10391951854915411234 : True := trivial
theorem main.tw10392798680974175534 : True := trivial
theorem main.tw10609540516017602915 : True := trivial
theorem main.tw10625486282989778954 : True := trivial
theorem main.tw10663580350406149668 : True := trivial
theorem main.tw10665089971535097683 : True := trivial
theorem main.tw10665469846841522134 : True := trivial
theorem main.tw10669944970481658594 : True := trivial
theorem main.tw10707853282979444102 : True := trivial
theorem main.tw10821422270917381399 : True := trivial
theorem main.tw1084114956928915155 : True := trivial
theorem main.tw10876375607700338302 : True := trivial
theorem main.tw10877679251791092727 : True := trivial
theorem main.tw10896356407431480244 : True := trivial
theorem main.tw10924716458440934090 : True := trivial
theorem main.tw1098248734344127483 : True := trivial
theorem main.tw1099256609624015869 : True := trivial
theorem main.tw11001617756164336837 : True := trivial
theorem main.tw11092141859048813250 : True := trivial
theorem main.tw11101190512080308003 : True := trivial
theorem main.tw11120327062377616369 : True := trivial
theorem main.tw11135027115929721415 : True := trivial
theorem main.tw11156056980113079860 : True := trivial
theorem main.tw1118068078248606362 : True := trivial
theorem main.tw11181722664286889309 : True := trivial
theorem main.tw11221353774195762014 : True := trivial
theorem main.tw11261727412033496967 : True := trivial
theorem main.tw1130211791997205004 : True := trivial
theorem main.tw11374851513655246148 : True := trivial
theorem main.tw11403851563620829512 : True := trivial
theorem main.tw11461230924637031220 : True := trivial
theorem main.tw11476092923266045095 : True := trivial
theorem main.tw11487549891475536569 : True := trivial
theorem main.tw11501822485730972192 : True := trivial
theorem main.tw11544348965984651327 : True := trivial
theorem main.tw1156462466702112376 : True := trivial
theorem main.tw1157997071576566072 : True := trivial
theorem main.tw11595355409239048105 : True := trivial
theorem main.tw11646826074482590764 : True := trivial
theorem main.tw11692516046256081784 : True := trivial
theorem main.tw11710404883906591787 : True := trivial
theorem main.tw11752208632293872130 : True := trivial
theorem main.tw11767160866134126599 : True := trivial
theorem main.tw11785714552879321826 : True := trivial
theorem main.tw1178595665728414349 : True := trivial
theorem main.tw11815829001073249272 : True := trivial
theorem main.tw11968820916164567120 : True := trivial
theorem main.tw11982392923317675503 : True := trivial
theorem main.tw11987853993630220354 : True := trivial
theorem main.tw12057704586751987240 : True := trivial
theorem main.tw12077450504624328385 : True := trivial
theorem main.tw12093647306153771053 : True := trivial
theorem main.tw12205347405646519318 : True := trivial
theorem main.tw12252054271945606052 : True := trivial
theorem main.tw12298629886278197574 : True := trivial
theorem main.tw12343854547171428336 : True := trivial
theorem main.tw12361340156312767134 : True := trivial
theorem main.tw12400434520335623248 : True := trivial
theorem main.tw12431561837914552411 : True := trivial
theorem main.tw12451923566104230752 : True := trivial
theorem main.tw12455012482086183272 : True := trivial
theorem main.tw12483276189755474720 : True := trivial
theorem main.tw12518504611687188807 : True := trivial
theorem main.tw12590340796369385619 : True := trivial
theorem main.tw12608185968620612914 : True := trivial
theorem main.tw12623159325031504133 : True := trivial
theorem main.tw12646911602827044314 : True := trivial
theorem main.tw12670839924663504800 : True := trivial
theorem main.tw1270039299266317192 : True := trivial
theorem main.tw12702744160499308131 : True := trivial
theorem main.tw12728813016297866226 : True := trivial
theorem main.tw12739419802310465029 : True := trivial
theorem main.tw12839114828313443825 : True := trivial
theorem main.tw12872379398031375081 : True := trivial
theorem main.tw12900284412222446716 : True := trivial
theorem main.tw12915833801598196605 : True := trivial
theorem main.tw12922898485456448571 : True := trivial
theorem main.tw12927740378394474205 : True := trivial
theorem main.tw12941917028564957548 : True := trivial
theorem main.tw1306636233014830658 : True := trivial
theorem main.tw13110437831325028092 : True := trivial
theorem main.tw13157206579259725088 : True := trivial
theorem main.tw1319676515408343850 : True := trivial
theorem main.tw13219505800766818778 : True := trivial
theorem main.tw13224007501803129859 : True := trivial
theorem main.tw13270728482189477470 : True := trivial
theorem main.tw13293747886898857621 : True := trivial
theorem main.tw13348322127785295214 : True := trivial
theorem main.tw13350764725976880583 : True := trivial
theorem main.tw13402765919934010277 : True := trivial
theorem main.tw13503263706703578961 : True := trivial
theorem main.tw13590572293223372214 : True := trivial
theorem main.tw13591255225166038476 : True := trivial
theorem main.tw13626721169425172152 : True := trivial
theorem main.tw13642826006792871662 : True := trivial
theorem main.tw13667920496262714385 : True := trivial
theorem main.tw13676971244355772609 : True := trivial
theorem main.tw13678406521842155018 : True := trivial
theorem main.tw13693970394777133609 : True := trivial
theorem main.tw13724616953566380437 : True := trivial
theorem main.tw13777938177461255882 : True := trivial
theorem main.tw13803360072150633466 : True := trivial
theorem main.tw13838900630717943254 : True := trivial
theorem main.tw13876859957761632879 : True := trivial
theorem main.tw13962693860625380366 : True := trivial
theorem main.tw13966000705981683139 : True := trivial
theorem main.tw14009396871252706886 : True := trivial
theorem main.tw14060465935940456498 : True := trivial
theorem main.tw14061640607465278742 : True := trivial
theorem main.tw14064073609400967072 : True := trivial
theorem main.tw14080665800827857628 : True := trivial
theorem main.tw14097447854668400296 : True := trivial
theorem main.tw1409966394225722968 : True := trivial
theorem main.tw14161005256144132680 : True := trivial
theorem main.tw14218914174604095658 : True := trivial
theorem main.tw1429040668314091153 : True := trivial
theorem main.tw1439166485080882 : True := trivial
theorem main.tw14439473939278146460 : True := trivial
theorem main.tw14457758005677747962 : True := trivial
theorem main.tw14510055921401542917 : True := trivial
theorem main.tw1453356044741674121 : True := trivial
theorem main.tw14539993770535171780 : True := trivial
theorem main.tw14562738103837258888 : True := trivial
theorem main.tw14635473669698735251 : True := trivial
theorem main.tw14639212616227390028 : True := trivial
theorem main.tw14646587721710459877 : True := trivial
theorem main.tw14672674291997333471 : True := trivial
theorem main.tw14722489848711283861 : True := trivial
theorem main.tw14771111431291430275 : True := trivial
theorem main.tw14788915703135433725 : True := trivial
theorem main.tw14793117695081215449 : True := trivial
theorem main.tw14907226015203709474 : True := trivial
theorem main.tw14909365282108701170 : True := trivial
theorem main.tw15029214791101857389 : True := trivial
theorem main.tw1504049600530537962 : True := trivial
theorem main.tw15079240505294077160 : True := trivial
theorem main.tw15109750227778091905 : True := trivial
theorem main.tw15131278010643852716 : True := trivial
theorem main.tw15136431859952498927 : True := trivial
theorem main.tw15270170921892066516 : True := trivial
theorem main.tw15303317825217679618 : True := trivial
theorem main.tw15342904991969174519 : True := trivial
theorem main.tw15356762974548107741 : True := trivial
theorem main.tw15365013842991253249 : True := trivial
theorem main.tw15465920861327815835 : True := trivial
theorem main.tw15467891735981029475 : True := trivial
theorem main.tw15485851114877660061 : True := trivial
theorem main.tw15491723280356408159 : True := trivial
theorem main.tw15510692781650021527 : True := trivial
theorem main.tw15514936471743626214 : True := trivial
theorem main.tw15595112118272840620 : True := trivial
theorem main.tw15624239662980076321 : True := trivial
theorem main.tw15643365686152983790 : True := trivial
theorem main.tw15651024617767166033 : True := trivial
theorem main.tw15730647564424650218 : True := trivial
theorem main.tw15734660467963936456 : True := trivial
theorem main.tw15737690656516749961 : True := trivial
theorem main.tw15768048840197415361 : True := trivial
theorem main.tw15803610866087392283 : True := trivial
theorem main.tw15806524323241146399 : True := trivial
theorem main.tw15869697094968300390 : True := trivial
theorem main.tw1587290215689348708 : True := trivial
theorem main.tw15957259510549269134 : True := trivial
theorem main.tw16008252555379753968 : True := trivial
theorem main.tw16008457594558532635 : True := trivial
theorem main.tw16035907590883218939 : True := trivial
theorem main.tw16049902774474827687 : True := trivial
theorem main.tw16071463447376511305 : True := trivial
theorem main.tw16102231251864390963 : True := trivial
theorem main.tw16130491620861596060 : True := trivial
theorem main.tw16136984950599521427 : True := trivial
theorem main.tw16153842264607907944 : True := trivial
theorem main.tw1615956725737779560 : True := trivial
theorem main.tw16187894506366716058 : True := trivial
theorem main.tw16193401482309157537 : True := trivial
theorem main.tw16251939892948500945 : True := trivial
theorem main.tw1628013610222277130 : True := trivial
theorem main.tw1632041292262086317 : True := trivial
theorem main.tw16320729459185622934 : True := trivial
theorem main.tw16356685582667847594 : True := trivial
theorem main.tw16361134009908129286 : True := trivial
theorem main.tw16411370214107742406 : True := trivial
theorem main.tw16452447596832230105 : True := trivial
theorem main.tw16480584520131690045 : True := trivial
theorem main.tw16519101796099990279 : True := trivial
theorem main.tw16629339528299215175 : True := trivial
theorem main.tw16721930046160240684 : True := trivial
theorem main.tw1677766988990989824 : True := trivial
theorem main.tw1678875084529416142 : True := trivial
theorem main.tw16819838333489098493 : True := trivial
theorem main.tw16826212616301561204 : True := trivial
theorem main.tw16832360635688203351 : True := trivial
theorem main.tw16923884221124529275 : True := trivial
theorem main.tw16950194794029067938 : True := trivial
theorem main.tw16952715711813285254 : True := trivial
theorem main.tw16965079339398995527 : True := trivial
theorem main.tw17057053908230417247 : True := trivial
theorem main.tw17091655785135471103 : True := trivial
theorem main.tw17118054049896295152 : True := trivial
theorem main.tw17146568849442343683 : True := trivial
theorem main.tw1714950047550659301 : True := trivial
theorem main.tw17201416709059790184 : True := trivial
theorem main.tw17292155258170135553 : True := trivial
theorem main.tw17297283025540448806 : True := trivial
theorem main.tw17336282652733537790 : True := trivial
theorem main.tw17353955331779342651 : True := trivial
theorem main.tw17402982504261768225 : True := trivial
theorem main.tw17403364634526059139 : True := trivial
theorem main.tw17510229520200029679 : True := trivial
theorem main.tw17679725944135375923 : True := trivial
theorem main.tw17708487481403421675 : True := trivial
theorem main.tw17715262827843222689 : True := trivial
theorem main.tw17725498274588495791 : True := trivial
theorem main.tw17737603089517620647 : True := trivial
theorem main.tw17767330081159143506 : True := trivial
theorem main.tw17815151251143906927 : True := trivial
theorem main.tw17871620999419790863 : True := trivial
theorem main.tw17958375852430007124 : True := trivial
theorem main.tw17974016328880235120 : True := trivial
theorem main.tw18063282731904131703 : True := trivial
theorem main.tw18132893181854203810 : True := trivial
theorem main.tw18134284020713443437 : True := trivial
theorem main.tw18190005008629794160 : True := trivial
theorem main.tw18218335207050127959 : True := trivial
theorem main.tw18222101913041318035 : True := trivial
theorem main.tw18234761425742761375 : True := trivial
theorem main.tw18284262389922463811 : True := trivial
theorem main.tw18315214858253571532 : True := trivial
theorem main.tw18325589031809861271 : True := trivial
theorem main.tw18332899500509843999 : True := trivial
theorem main.tw18403998269306519403 : True := trivial
theorem main.tw18418235949754561950 : True := trivial
theorem main.tw18421580907717582127 : True := trivial
theorem main.tw18431692314602308842 : True := trivial
theorem main.tw18442785490491869365 : True := trivial
theorem main.tw1850612553970854742 : True := trivial
theorem main.tw2007339730380871907 : True := trivial
theorem main.tw2110754180369666209 : True := trivial
theorem main.tw2190695567426971638 : True := trivial
theorem main.tw2195194259037543316 : True := trivial
theorem main.tw221909299271738847 : True := trivial
theorem main.tw2225956059507018244 : True := trivial
theorem main.tw223528310411579522 : True := trivial
theorem main.tw2238316416991798583 : True := trivial
theorem main.tw2279707942289718827 : True := trivial
theorem main.tw2287757881348798766 : True := trivial
theorem main.tw2354262462317623899 : True := trivial
theorem main.tw2406621943657119228 : True := trivial
theorem main.tw2422566147082919837 : True := trivial
theorem main.tw2496676261509829067 : True := trivial
theorem main.tw252264761731244852 : True := trivial
theorem main.tw2524017781993486291 : True := trivial
theorem main.tw2538046985915079169 : True := trivial
theorem main.tw2544328076492683441 : True := trivial
theorem main.tw2566753976717531306 : True := trivial
theorem main.tw2583023086579268501 : True := trivial
theorem main.tw2647654807098235363 : True := trivial
theorem main.tw2702614204127132176 : True := trivial
theorem main.tw2724176850512262202 : True := trivial
theorem main.tw2729793432009153956 : True := trivial
theorem main.tw2744014450722944760 : True := trivial
theorem main.tw2821470743931037460 : True := trivial
theorem main.tw2852251193174398662 : True := trivial
theorem main.tw2895952525429962455 : True := trivial
theorem main.tw2906824675625879941 : True := trivial
theorem main.tw2921621734765799159 : True := trivial
theorem main.tw2921958311620399285 : True := trivial
theorem main.tw302440914744352476 : True := trivial
theorem main.tw3027586509356016917 : True := trivial
theorem main.tw31828345220925962 : True := trivial
theorem main.tw3234112476842188716 : True := trivial
theorem main.tw3299218664060906527 : True := trivial
theorem main.tw3314904115985164895 : True := trivial
theorem main.tw3343439749351644125 : True := trivial
theorem main.tw341453280667917650 : True := trivial
theorem main.tw3454311308915712629 : True := trivial
theorem main.tw3466206800631347469 : True := trivial
theorem main.tw3491332818749588091 : True := trivial
theorem main.tw3532412968194664532 : True := trivial
theorem main.tw3549514262204291990 : True := trivial
theorem main.tw3557749057250611081 : True := trivial
theorem main.tw3562595001068472590 : True := trivial
theorem main.tw3583811862363856187 : True := trivial
theorem main.tw3613476055612923068 : True := trivial
theorem main.tw3706830351922483016 : True := trivial
theorem main.tw3753234271619531906 : True := trivial
theorem main.tw3779293765908593550 : True := trivial
theorem main.tw3796207824708393856 : True := trivial
theorem main.tw387501639795913443 : True := trivial
theorem main.tw3934531018447913466 : True := trivial
theorem main.tw3938019374604804178 : True := trivial
theorem main.tw3960113756560652017 : True := trivial
theorem main.tw4026956272090484662 : True := trivial
theorem main.tw4038153913678941442 : True := trivial
theorem main.tw4039676971129161736 : True := trivial
theorem main.tw4044139247061151142 : True := trivial
theorem main.tw4126360451269472574 : True := trivial
theorem main.tw4156125974679941130 : True := trivial
theorem main.tw4261964983698606537 : True := trivial
theorem main.tw4297412468100583042 : True := trivial
theorem main.tw4324958949535026087 : True := trivial
theorem main.tw4365514962571936147 : True := trivial
theorem main.tw4475767826048309731 : True := trivial
theorem main.tw451873465583785326 : True := trivial
theorem main.tw452746233719593009 : True := trivial
theorem main.tw453184122279072053 : True := trivial
theorem main.tw4585930131862741453 : True := trivial
theorem main.tw4592260682591058475 : True := trivial
theorem main.tw4637267157515435788 : True := trivial
theorem main.tw4650958065196391918 : True := trivial
theorem main.tw4651154628705390771 : True := trivial
theorem main.tw4681395471914393968 : True := trivial
theorem main.tw4775608329324902142 : True := trivial
theorem main.tw4812270449578504274 : True := trivial
theorem main.tw4839478117068044826 : True := trivial
theorem main.tw4900431672193113347 : True := trivial
theorem main.tw5061512775090418087 : True := trivial
theorem main.tw5084117380071580128 : True := trivial
theorem main.tw5102693214775723256 : True := trivial
theorem main.tw5160751907100791332 : True := trivial
theorem main.tw5197580479859491643 : True := trivial
theorem main.tw5203219222101121401 : True := trivial
theorem main.tw52199770228462824 : True := trivial
theorem main.tw5240536507193477226 : True := trivial
theorem main.tw5378808338967829844 : True := trivial
theorem main.tw5400957986263281647 : True := trivial
theorem main.tw5401703158475992631 : True := trivial
theorem main.tw5418533224930618480 : True := trivial
theorem main.tw5436791530062809996 : True := trivial
theorem main.tw5473700226181020891 : True := trivial
theorem main.tw5507402815253087181 : True := trivial
theorem main.tw5515560833506152761 : True := trivial
theorem main.tw5517759331935216279 : True := trivial
theorem main.tw5518243967957118194 : True := trivial
theorem main.tw5532463470591059822 : True := trivial
theorem main.tw5571399437266216444 : True := trivial
theorem main.tw5585478044538960755 : True := trivial
theorem main.tw5613160597433933154 : True := trivial
theorem main.tw5649967823195072380 : True := trivial
theorem main.tw5665406974723832613 : True := trivial
theorem main.tw5665735395497279834 : True := trivial
theorem main.tw5668385679167799114 : True := trivial
theorem main.tw5750970447120158817 : True := trivial
theorem main.tw5781596087445459943 : True := trivial
theorem main.tw5797031442667253490 : True := trivial
theorem main.tw5871769198996169552 : True := trivial
theorem main.tw5995161000843957690 : True := trivial
theorem main.tw6044114016751833949 : True := trivial
theorem main.tw6075091234017535682 : True := trivial
theorem main.tw6112859857366181021 : True := trivial
theorem main.tw6161133996638707016 : True := trivial
theorem main.tw6162249291895867263 : True := trivial
theorem main.tw6222487380544312443 : True := trivial
theorem main.tw6361450105264607166 : True := trivial
theorem main.tw6385024630547198690 : True := trivial
theorem main.tw6418098437765475518 : True := trivial
theorem main.tw6449824600675878752 : True := trivial
theorem main.tw645136716886899192 : True := trivial
theorem main.tw6508729118710982530 : True := trivial
theorem main.tw6511744376749373798 : True := trivial
theorem main.tw6519269512792494810 : True := trivial
theorem main.tw6545385358150927430 : True := trivial
theorem main.tw6557543464795787104 : True := trivial
theorem main.tw656089360051881306 : True := trivial
theorem main.tw65644731488775911 : True := trivial
theorem main.tw6565609875121592624 : True := trivial
theorem main.tw6596593509180878263 : True := trivial
theorem main.tw66260789543402106 : True := trivial
theorem main.tw6635558491612396129 : True := trivial
theorem main.tw6655696309031964122 : True := trivial
theorem main.tw6660377722381337597 : True := trivial
theorem main.tw6674386428176565332 : True := trivial
theorem main.tw669201953871153471 : True := trivial
theorem main.tw6696893160125735727 : True := trivial
theorem main.tw6741292078354696603 : True := trivial
theorem main.tw6801380410627298636 : True := trivial
theorem main.tw6862492499505807319 : True := trivial
theorem main.tw6877560268529008848 : True := trivial
theorem main.tw6886502059237256666 : True := trivial
theorem main.tw6910295442248876197 : True := trivial
theorem main.tw6912675738884088206 : True := trivial
theorem main.tw7074144079889050967 : True := trivial
theorem main.tw7083192437325867461 : True := trivial
theorem main.tw7153082081811710619 : True := trivial
theorem main.tw716429049611869786 : True := trivial
theorem main.tw7173623326730630234 : True := trivial
theorem main.tw7186131708394509389 : True := trivial
theorem main.tw7214478077546791972 : True := trivial
theorem main.tw7235775444256392728 : True := trivial
theorem main.tw7237411587787531456 : True := trivial
theorem main.tw7268301785047649679 : True := trivial
theorem main.tw7293298908176781663 : True := trivial
theorem main.tw7308723440029596264 : True := trivial
theorem main.tw7332552209862256014 : True := trivial
theorem main.tw73751810991705359 : True := trivial
theorem main.tw7380652910202371479 : True := trivial
theorem main.tw7411558596216406370 : True := trivial
theorem main.tw7436448052282571913 : True := trivial
theorem main.tw7439787175107056256 : True := trivial
theorem main.tw750237026923860459 : True := trivial
theorem main.tw7514964652732493775 : True := trivial
theorem main.tw7590696779544312186 : True := trivial
theorem main.tw7647378279178456250 : True := trivial
theorem main.tw765107192605250810 : True := trivial
theorem main.tw7691172733374981047 : True := trivial
theorem main.tw7698036289167662538 : True := trivial
theorem main.tw7751025194823839400 : True := trivial
theorem main.tw7761410557224570781 : True := trivial
theorem main.tw7846812961960373227 : True := trivial
theorem main.tw7875838824674609581 : True := trivial
theorem main.tw8079908401900000222 : True := trivial
theorem main.tw8118072479153026202 : True := trivial
theorem main.tw8207831470162742035 : True := trivial
theorem main.tw8260724100714396741 : True := trivial
theorem main.tw834873547066669988 : True := trivial
theorem main.tw8440099810896429113 : True := trivial
theorem main.tw8466321980469482115 : True := trivial
theorem main.tw8467378866343419333 : True := trivial
theorem main.tw8475525182357872103 : True := trivial
theorem main.tw8478376212529829071 : True := trivial
theorem main.tw8557395850702784662 : True := trivial
theorem main.tw8627561154394265716 : True := trivial
theorem main.tw8652556701797213591 : True := trivial
theorem main.tw8663697691656813868 : True := trivial
theorem main.tw8707812797481193996 : True := trivial
theorem main.tw8729708805864041840 : True := trivial
theorem main.tw8748973510418095054 : True := trivial
theorem main.tw8754357760408615828 : True := trivial
theorem main.tw8834365191522931223 : True := trivial
theorem main.tw8844999433837080629 : True := trivial
theorem main.tw8905464785575363620 : True := trivial
theorem main.tw8930851030842425676 : True := trivial
theorem main.tw8947760058931562597 : True := trivial
theorem main.tw8986380516069498542 : True := trivial
theorem main.tw9069182735580402390 : True := trivial
theorem main.tw9140549234789285517 : True := trivial
theorem main.tw9189880136782149556 : True := trivial
theorem main.tw9190990891756207365 : True := trivial
theorem main.tw9265829497004654079 : True := trivial
theorem main.tw9268297945177815525 : True := trivial
theorem main.tw9272984997812220495 : True := trivial
theorem main.tw9274054859765456524 : True := trivial
theorem main.tw9360745474812902239 : True := trivial
theorem main.tw9361300454564663673 : True := trivial
theorem main.tw9369988214560726041 : True := trivial
theorem main.tw9376575566392132001 : True := trivial
theorem main.tw9381277316556691805 : True := trivial
theorem main.tw9483120023164983764 : True := trivial
theorem main.tw9508770018378322450 : True := trivial
theorem main.tw9512817274939609580 : True := trivial
theorem main.tw9561784451562097942 : True := trivial
theorem main.tw9563168847844234846 : True := trivial
theorem main.tw961187720498965250 : True := trivial
theorem main.tw962032349192862916 : True := trivial
theorem main.tw9643095132205631929 : True := trivial
theorem main.tw9656510801202774680 : True := trivial
theorem main.tw9670510015898674028 : True := trivial
theorem main.tw9681375758050803366 : True := trivial
theorem main.tw9682133043923132273 : True := trivial
theorem main.tw9730157408454304684 : True := trivial
theorem main.tw9756827057097773860 : True := trivial
theorem main.tw979501456738626862 : True := trivial
theorem main.tw9808303207383738048 : True := trivial
theorem main.tw9897820754763898449 : True := trivial
theorem main.tw9957550378297406723 : True := trivial
theorem main.tw9976160756891316704 : True := trivial
theorem main.tw9986019674649008433 : True := trivial
theorem main.tw9994787619460420439 : True := trivial
end Mine
open PySem PySem.W PyProof.Rows PySem.Calls PySem.Spec
set_option maxRecDepth 100000
set_option Elab.async true
namespace Mine
theorem main : PySem.Challenge.rw_uc0058_01.Holds := by
  w_on
  o_law
  k_head
  (case hw => w_witness2)
  have main_fin : ∀ {prog : Program} {w : World} {p : Program} {loose : List Str} {mean : ExcName → Option Value} {mg mb : Str → Option Value} {b : Heap} {sz la : Nat} {vs : List Value} {zs : List Int} {env : Env} {m : Str → Option Value} {o0 o1 o2 o3 o4 : Obj} {oc dV kV doc pm cdv ct : Value} {od an : Option Addr} {osl : Array (Option Value)} {name qual : Str} {params : Arguments} {body : List Stmt} {scope : Scope} (s : Shared) (X : (main.heap_1_39 w.params).In b) (Tp : Top p loose mean mg mb b) (F : Fr b sz s.heap m) (hm : m "script" = some (.ref la)) (Nw : News b sz s.heap [(sz + 1 + 1 + 1 + 1 + 1, o4), (sz + 1 + 1 + 1 + 1, o3), (sz + 1 + 1 + 1, o2), (sz + 1 + 1, o1), (sz + 1, o0), (127, tabObj #[]), (120, tabObj #[])]) (hlt : 127 < sz) (c0 : o0.data = .cell none) (c1 : o1.data = .cell none) (c2 : o2.data = .cell none) (c3 : o3.data = .cell none) (c4 : o4.data = .cell none) (k0 : env.cells.lookup (nm 94) = some (sz + 1)) (k1 : env.cells.lookup (nm 38) = some (sz + 2)) (k2 : env.cells.lookup (nm 97) = some (sz + 3)) (k3 : env.cells.lookup (nm 92) = some (sz + 4)) (k4 : env.cells.lookup (nm 67) = some (sz + 5)) (hb : b.get? la = some (listOf vs.toArray 0)) (hI : IntsAre vs zs) (hlen : zs.length ≤ 63) (hl : (main.heap_1_39 w.params).lookup 365 = some ⟨oc, od, .func (fnOf name qual params body scope dV kV doc pm an cdv ct), osl⟩) (hsc : env.scope = scope) (hk : env.scope.kind = .function) (he1 : env.locals = sz) (he2 : env.globals = mainGlobals) (he3 : env.builtins = builtinsNs) (he4 : env.frame = some sz) {Q : Flow → Shared → Prop} {E : Value → Shared → Prop} (k : ∀ h' tk, (∀ a o, b.get? a = some o → h'.get? a = some o) → GrownAt 120 h' → GrownAt 127 h' → Q (.ret (.bool true)) { s with heap := h', toks := tk }), wpAny (model prog w) (callerA.deeper env) (execs body env) Q E s := by
    have h_law_name : ∀ (W : Wo) (hK : W.K = main.heap_1_39 W.w.params), SC W 1 (.ref 334) [] F_law_name := by
      intro W hK
      refine' SC_def [] ?ho_109 ?hcd_109 ?hbind_109 ?hps_109 ?hpn_109 ?hloc_109 ?hbody_109 ?hco_109 ?hgen_109 ?hk_109 ?hcell_109
      case ho_109 => rw [hK]; rfl
      case hcd_109 => rw [hK]; kernel_rfl
      case hbind_109 => intro s xs _ h; obtain ⟨x0, x1, x2, rfl⟩ := len3 h; exact BindsTo.of_eq rfl
      case hps_109 => decide
      case hpn_109 => decide
      case hloc_109 => decide +kernel
      case hbody_109 =>
        intro cx O he
        have hsc : cx.env.scope = _ := congrArg Env.scope he
        exact (sCons (sAsg (sStr (by kernel_rfl)) (tLoc O 80 (by kernel_rfl) (kindAt hsc (by kernel_rfl)) (by decide))) (sCons (sRet (sBin (sBin (sSub (sLoc O 80 (by kernel_rfl) (kindAt hsc (by kernel_rfl)) (by kernel_rfl)) (sLoc O 17 (by kernel_rfl) (kindAt hsc (by kernel_rfl)) (by kernel_rfl))) (sSub (sLoc O 80 (by kernel_rfl) (kindAt hsc (by kernel_rfl)) (by kernel_rfl)) (sLoc O 4 (by kernel_rfl) (kindAt hsc (by kernel_rfl)) (by kernel_rfl))) oAdd) (sSub (sLoc O 80 (by kernel_rfl) (kindAt hsc (by kernel_rfl)) (by kernel_rfl)) (sLoc O 79 (by kernel_rfl) (kindAt hsc (by kernel_rfl)) (by kernel_rfl))) oAdd)) sNil))
      all_goals first | rfl | decide
    have h_law_sign : ∀ (W : Wo) (hK : W.K = main.heap_1_39 W.w.params), SC W 1 (.ref 320) [] F_law_sign := by
      intro W hK
      clear h_law_name
      have kf_gb_chr : ∀ (P : Params), nsIn (main.heap_1_39 P) mainGlobals "chr" = some none := by
        intro P
        kernel_rfl
      refine' SC_def [] ?ho_110 ?hcd_110 ?hbind_110 ?hps_110 ?hpn_110 ?hloc_110 ?hbody_110 ?hco_110 ?hgen_110 ?hk_110 ?hcell_110
      case ho_110 => rw [hK]; rfl
      case hcd_110 => rw [hK]; kernel_rfl
      case hbind_110 => intro s xs _ h; obtain ⟨x0, rfl⟩ := len1 h; exact BindsTo.of_eq rfl
      case hps_110 => decide
      case hpn_110 => decide
      case hloc_110 => decide +kernel
      case hbody_110 =>
        intro cx O he
        have hsc : cx.env.scope = _ := congrArg Env.scope he
        exact (sCons (sRet (sIfExp (sOr (sCmpT (sLoc O 76 (by kernel_rfl) (kindAt hsc (by kernel_rfl)) (by kernel_rfl)) sInt oLt) (sCmpT (sLoc O 76 (by kernel_rfl) (kindAt hsc (by kernel_rfl)) (by kernel_rfl)) sInt (oEq O))) (sCall O (sBui O (hK ▸ kf_gb_chr _) (by kernel_rfl) (by decide) (kindAt hsc (by kernel_rfl)) (by kernel_rfl)) (sArgs (sBin (sLoc O 76 (by kernel_rfl) (kindAt hsc (by kernel_rfl)) (by kernel_rfl)) sInt oAdd) sArgs0) (SF1 (cChr 0)) Kp.builtin (Nat.zero_le _)) (sCall O (sBui O (hK ▸ kf_gb_chr _) (by kernel_rfl) (by decide) (kindAt hsc (by kernel_rfl)) (by kernel_rfl)) (sArgs (sLoc O 76 (by kernel_rfl) (kindAt hsc (by kernel_rfl)) (by kernel_rfl)) sArgs0) (SF1 (cChr 0)) Kp.builtin (Nat.zero_le _)))) sNil)
      all_goals first | rfl | decide
    have h_law_lies : ∀ (W : Wo) (hK : W.K = main.heap_1_39 W.w.params), SC W 1 (.ref 360) [] F_law_lies := by
      intro W hK
      clear h_law_name h_law_sign
      refine' SC_def [] ?ho_111 ?hcd_111 ?hbind_111 ?hps_111 ?hpn_111 ?hloc_111 ?hbody_111 ?hco_111 ?hgen_111 ?hk_111 ?hcell_111
      case ho_111 => rw [hK]; rfl
      case hcd_111 => rw [hK]; kernel_rfl
      case hbind_111 => intro s xs _ h; obtain ⟨x0, x1, rfl⟩ := len2 h; exact BindsTo.of_eq rfl
      case hps_111 => decide
      case hpn_111 => decide
      case hloc_111 => decide +kernel
      case hbody_111 =>
        intro cx O he
        have hsc : cx.env.scope = _ := congrArg Env.scope he
        exact (sCons (sIf (sOr (sCmpT (sBin (sSub (sLoc O 92 (by kernel_rfl) (kindAt hsc (by kernel_rfl)) (by kernel_rfl)) sInt) (sSub (sLoc O 93 (by kernel_rfl) (kindAt hsc (by kernel_rfl)) (by kernel_rfl)) sInt) oMod) sInt (oNe O)) (sCmpT (sBin (sSub (sLoc O 92 (by kernel_rfl) (kindAt hsc (by kernel_rfl)) (by kernel_rfl)) sInt) (sSub (sLoc O 93 (by kernel_rfl) (kindAt hsc (by kernel_rfl)) (by kernel_rfl)) sInt) oMod) sInt (oNe O))) (sCons (sRet sBool) sNil) sNil) (sCons (sRet (sCmp (sBin (sBin (sSub (sLoc O 92 (by kernel_rfl) (kindAt hsc (by kernel_rfl)) (by kernel_rfl)) sInt) (sBin (sBin (sSub (sLoc O 92 (by kernel_rfl) (kindAt hsc (by kernel_rfl)) (by kernel_rfl)) sInt) (sSub (sLoc O 93 (by kernel_rfl) (kindAt hsc (by kernel_rfl)) (by kernel_rfl)) sInt) oDiv) (sSub (sLoc O 93 (by kernel_rfl) (kindAt hsc (by kernel_rfl)) (by kernel_rfl)) sInt) oMul) oSub) (sSub (sLoc O 93 (by kernel_rfl) (kindAt hsc (by kernel_rfl)) (by kernel_rfl)) sInt) oMod) sInt (oEq O))) sNil))
      all_goals first | rfl | decide
    have h_wsinit : ∀ (W : Wo) (hK : W.K = main.heap_1_39 W.w.params), SC W 1 (.ref 55) [] F_wsinit := by
      intro W hK
      clear h_law_name h_law_sign h_law_lies
      have kf_pg100 : ∀ (P : Params), plainGet (main.heap_1_39 P) 100 "x" = true := by
        intro P
        kernel_rfl
      have kf_hd100 : ∀ (P : Params), hasDictIn (main.heap_1_39 P) 100 = true := by
        intro P
        kernel_rfl
      have kf_sa100 : ∀ (P : Params), findIn (main.heap_1_39 P) (.ref 100) "__setattr__" = some (some (.builtin "object.__setattr__")) := by
        intro P
        kernel_rfl
      have kf_po100 : ∀ (P : Params), plainOver (main.heap_1_39 P) 100 = true := by
        intro P
        kernel_rfl
      have kf_fi_raw : ∀ (P : Params), findIn (main.heap_1_39 P) (.ref 100) "raw" = some none := by
        intro P
        kernel_rfl
      have kf_tk_raw : ∀ (P : Params), takerIn (main.heap_1_39 P) 100 "raw" = some none := by
        intro P
        kernel_rfl
      have kf_tk_n : ∀ (P : Params), takerIn (main.heap_1_39 P) 100 "n" = some none := by
        intro P
        kernel_rfl
      have kf_tk_nt : ∀ (P : Params), takerIn (main.heap_1_39 P) 100 "nt" = some none := by
        intro P
        kernel_rfl
      have kf_tk_norm : ∀ (P : Params), takerIn (main.heap_1_39 P) 100 "norm" = some none := by
        intro P
        kernel_rfl
      have kf_tk_is_simple : ∀ (P : Params), takerIn (main.heap_1_39 P) 100 "is_simple" = some none := by
        intro P
        kernel_rfl
      have kf_gl100 : ∀ (P : Params), nsIn (main.heap_1_39 P) mainGlobals "Whitespace" = some (some (.ref 100)) := by
        intro P
        kernel_rfl
      have kf_gb_len : ∀ (P : Params), nsIn (main.heap_1_39 P) mainGlobals "len" = some none := by
        intro P
        kernel_rfl
      have kf_gb_tuple : ∀ (P : Params), nsIn (main.heap_1_39 P) mainGlobals "tuple" = some none := by
        intro P
        kernel_rfl
      have kf_ty100 : ∀ (P : Params), typeIn (main.heap_1_39 P) (.ref 100) = some (.type "type") := by
        intro P
        kernel_rfl
      have kf_rd100 : ∀ (P : Params), readsIn (main.heap_1_39 P) 100 (.type "type") = true := by
        intro P
        kernel_rfl
      have kf_fcS : ∀ (P : Params), ∃ t, findCls (main.heap_1_39 P) (.ref 100) (.type "type") "S" = some (.val (.str " " t)) := by
        intro P
        exact ⟨_, rfl⟩
      have kf_fcT : ∀ (P : Params), ∃ t, findCls (main.heap_1_39 P) (.ref 100) (.type "type") "T" = some (.val (.str "\t" t)) := by
        intro P
        exact ⟨_, rfl⟩
      refine' SC_def [] ?ho_112 ?hcd_112 ?hbind_112 ?hps_112 ?hpn_112 ?hloc_112 ?hbody_112 ?hco_112 ?hgen_112 ?hk_112 ?hcell_112
      case ho_112 => rw [hK]; rfl
      case hcd_112 => rw [hK]; kernel_rfl
      case hbind_112 => intro s xs X h; obtain ⟨x0, x1, rfl⟩ := len2 h; exact BindsTo.of_eq rfl
      case hps_112 => decide
      case hpn_112 => decide
      case hloc_112 => decide +kernel
      case hbody_112 =>
        intro cx O he
        have hsc : cx.env.scope = _ := congrArg Env.scope he
        exact (sCons (sAsgA O (C := 100) (k := 2) (sLoc O 11 (by kernel_rfl) (kindAt hsc (by kernel_rfl)) (by kernel_rfl)) (sLoc O 10 (by kernel_rfl) (kindAt hsc (by kernel_rfl)) (by kernel_rfl)) (by kernel_rfl) (by decide) (hK ▸ kf_sa100 _) (hK ▸ kf_po100 _) (hK ▸ kf_tk_raw _) (hK ▸ kf_hd100 _)) (sCons (sSwap O 0 1 (sTup (sArgs (sCAttrS O (C := 100) (mc := .type "type") (l := [32]) (sGlob O (v := .ref 100) (hK ▸ kf_gl100 _) (kindAt hsc (by kernel_rfl)) (by kernel_rfl)) (hK ▸ kf_ty100 _) (hK ▸ kf_rd100 _) (hK ▸ kf_fcS _) (by kernel_rfl)) (sArgs (sCAttrS O (C := 100) (mc := .type "type") (l := [9]) (sGlob O (v := .ref 100) (hK ▸ kf_gl100 _) (kindAt hsc (by kernel_rfl)) (by kernel_rfl)) (hK ▸ kf_ty100 _) (hK ▸ kf_rd100 _) (hK ▸ kf_fcT _) (by kernel_rfl)) sArgs0))) (by kernel_rfl) (by kernel_rfl) (by decide) (by decide) (kindAt hsc (by kernel_rfl)) (kindAt hsc (by kernel_rfl)) (by rfl) (swapped_of hsc fun _ => rfl)) (sCons (sAsg (sLst sArgs0) (tLoc O 3 (by kernel_rfl) (kindAt hsc (by kernel_rfl)) (by decide))) (sCons (sAsg3 sInt (tLoc O 4 (by kernel_rfl) (kindAt hsc (by kernel_rfl)) (by decide)) (tLoc O 5 (by kernel_rfl) (kindAt hsc (by kernel_rfl)) (by decide)) (tLoc O 6 (by kernel_rfl) (kindAt hsc (by kernel_rfl)) (by decide))) (sCons (sFor O 400 (sIter O (sAttr O (C := 100) (k := 2) (at' := none) (sLoc O 10 (by kernel_rfl) (kindAt hsc (by kernel_rfl)) (by kernel_rfl)) (by kernel_rfl) (by decide) (hK ▸ kf_pg100 _) (hK ▸ kf_hd100 _) (hK ▸ kf_fi_raw _) rfl)) (fun pv => have O := O.wp pv; have hsc := hsc; (tLoc O 7 (by kernel_rfl) (kindAt hsc (by kernel_rfl)) (by decide))) (fun pv => have O := O.wp pv; have hsc := hsc; (sCons (sIf (sCmpT (sLoc O 7 (by kernel_rfl) (kindAt hsc (by kernel_rfl)) (by kernel_rfl)) (sLoc O 0 (by kernel_rfl) (kindAt hsc (by kernel_rfl)) (by kernel_rfl)) (oEq O)) (sCons (sAsg (sBin (sLoc O 5 (by kernel_rfl) (kindAt hsc (by kernel_rfl)) (by kernel_rfl)) sInt oAdd) (tLoc O 5 (by kernel_rfl) (kindAt hsc (by kernel_rfl)) (by decide))) (sCons (sAsg (sBin (sLoc O 4 (by kernel_rfl) (kindAt hsc (by kernel_rfl)) (by kernel_rfl)) sInt oAdd) (tLoc O 4 (by kernel_rfl) (kindAt hsc (by kernel_rfl)) (by decide))) sNil)) (sCons (sIf (sCmpT (sLoc O 7 (by kernel_rfl) (kindAt hsc (by kernel_rfl)) (by kernel_rfl)) (sLoc O 1 (by kernel_rfl) (kindAt hsc (by kernel_rfl)) (by kernel_rfl)) (oEq O)) (sCons (sAsg (sBin (sLoc O 5 (by kernel_rfl) (kindAt hsc (by kernel_rfl)) (by kernel_rfl)) sInt oAdd) (tLoc O 5 (by kernel_rfl) (kindAt hsc (by kernel_rfl)) (by decide))) (sCons (sAsg (sBin (sLoc O 6 (by kernel_rfl) (kindAt hsc (by kernel_rfl)) (by kernel_rfl)) sInt oAdd) (tLoc O 6 (by kernel_rfl) (kindAt hsc (by kernel_rfl)) (by decide))) (sCons (sIf (sCmpT (sLoc O 4 (by kernel_rfl) (kindAt hsc (by kernel_rfl)) (by kernel_rfl)) (sCall O (sBui O (hK ▸ kf_gb_len _) (by kernel_rfl) (by decide) (kindAt hsc (by kernel_rfl)) (by kernel_rfl)) (sArgs (sLoc O 3 (by kernel_rfl) (kindAt hsc (by kernel_rfl)) (by kernel_rfl)) sArgs0) (SF1 (cLen 0)) Kp.builtin (Nat.zero_le _)) oGe) (sCons (sAsg (sBin (sLoc O 3 (by kernel_rfl) (kindAt hsc (by kernel_rfl)) (by kernel_rfl)) (sBin (sLst (sArgs sInt sArgs0)) (sBin (sBin (sLoc O 4 (by kernel_rfl) (kindAt hsc (by kernel_rfl)) (by kernel_rfl)) (sCall O (sBui O (hK ▸ kf_gb_len _) (by kernel_rfl) (by decide) (kindAt hsc (by kernel_rfl)) (by kernel_rfl)) (sArgs (sLoc O 3 (by kernel_rfl) (kindAt hsc (by kernel_rfl)) (by kernel_rfl)) sArgs0) (SF1 (cLen 0)) Kp.builtin (Nat.zero_le _)) oSub) sInt oAdd) oMul) oAdd) (tLoc O 3 (by kernel_rfl) (kindAt hsc (by kernel_rfl)) (by decide))) sNil) sNil) (sCons (sAsgS (sBin (sSub (sLoc O 3 (by kernel_rfl) (kindAt hsc (by kernel_rfl)) (by kernel_rfl)) (sLoc O 4 (by kernel_rfl) (kindAt hsc (by kernel_rfl)) (by kernel_rfl))) sInt oAdd) (sLoc O 3 (by kernel_rfl) (kindAt hsc (by kernel_rfl)) (by kernel_rfl)) (sLoc O 4 (by kernel_rfl) (kindAt hsc (by kernel_rfl)) (by kernel_rfl))) (sCons (sAsg sInt (tLoc O 4 (by kernel_rfl) (kindAt hsc (by kernel_rfl)) (by decide))) sNil))))) (sCons sBrk sNil)) sNil)) sNil))) (sCons (sAsgA O (C := 100) (k := 5) (sLoc O 5 (by kernel_rfl) (kindAt hsc (by kernel_rfl)) (by kernel_rfl)) (sLoc O 10 (by kernel_rfl) (kindAt hsc (by kernel_rfl)) (by kernel_rfl)) (by kernel_rfl) (by decide) (hK ▸ kf_sa100 _) (hK ▸ kf_po100 _) (hK ▸ kf_tk_n _) (hK ▸ kf_hd100 _)) (sCons (sAsgA O (C := 100) (k := 6) (sLoc O 6 (by kernel_rfl) (kindAt hsc (by kernel_rfl)) (by kernel_rfl)) (sLoc O 10 (by kernel_rfl) (kindAt hsc (by kernel_rfl)) (by kernel_rfl)) (by kernel_rfl) (by decide) (hK ▸ kf_sa100 _) (hK ▸ kf_po100 _) (hK ▸ kf_tk_nt _) (hK ▸ kf_hd100 _)) (sCons (sAsgA O (C := 100) (k := 8) (sTup (sArgs (sCall O (sBui O (hK ▸ kf_gb_tuple _) (by kernel_rfl) (by decide) (kindAt hsc (by kernel_rfl)) (by kernel_rfl)) (sArgs (sLoc O 3 (by kernel_rfl) (kindAt hsc (by kernel_rfl)) (by kernel_rfl)) sArgs0) (SF1 (cTuple 0)) Kp.type (Nat.zero_le _)) (sArgs (sLoc O 4 (by kernel_rfl) (kindAt hsc (by kernel_rfl)) (by kernel_rfl)) sArgs0))) (sLoc O 10 (by kernel_rfl) (kindAt hsc (by kernel_rfl)) (by kernel_rfl)) (by kernel_rfl) (by decide) (hK ▸ kf_sa100 _) (hK ▸ kf_po100 _) (hK ▸ kf_tk_norm _) (hK ▸ kf_hd100 _)) (sCons (sAsgA O (C := 100) (k := 9) (sCmp (sCall O (sBui O (hK ▸ kf_gb_len _) (by kernel_rfl) (by decide) (kindAt hsc (by kernel_rfl)) (by kernel_rfl)) (sArgs (sLoc O 3 (by kernel_rfl) (kindAt hsc (by kernel_rfl)) (by kernel_rfl)) sArgs0) (SF1 (cLen 0)) Kp.builtin (Nat.zero_le _)) sInt oLe) (sLoc O 10 (by kernel_rfl) (kindAt hsc (by kernel_rfl)) (by kernel_rfl)) (by kernel_rfl) (by decide) (hK ▸ kf_sa100 _) (hK ▸ kf_po100 _) (hK ▸ kf_tk_is_simple _) (hK ▸ kf_hd100 _)) sNil)))))))))
      all_goals first | rfl | decide
    have h_longest_run_of_spaces : ∀ (W : Wo) (hK : W.K = main.heap_1_39 W.w.params), SC W 1 (.ref 62) [] F_longest_run_of_spaces := by
      intro W hK
      clear h_law_name h_law_sign h_law_lies h_wsinit
      have kf_pg100 : ∀ (P : Params), plainGet (main.heap_1_39 P) 100 "x" = true := by
        intro P
        kernel_rfl
      have kf_hd100 : ∀ (P : Params), hasDictIn (main.heap_1_39 P) 100 = true := by
        intro P
        kernel_rfl
      have kf_fi_norm : ∀ (P : Params), findIn (main.heap_1_39 P) (.ref 100) "norm" = some none := by
        intro P
        kernel_rfl
      have kf_gb_len : ∀ (P : Params), nsIn (main.heap_1_39 P) mainGlobals "len" = some none := by
        intro P
        kernel_rfl
      have kf_gb_max : ∀ (P : Params), nsIn (main.heap_1_39 P) mainGlobals "max" = some none := by
        intro P
        kernel_rfl
      refine' SC_def [] ?ho_113 ?hcd_113 ?hbind_113 ?hps_113 ?hpn_113 ?hloc_113 ?hbody_113 ?hco_113 ?hgen_113 ?hk_113 ?hcell_113
      case ho_113 => rw [hK]; rfl
      case hcd_113 => rw [hK]; kernel_rfl
      case hbind_113 => intro s xs X h; obtain ⟨x0, rfl⟩ := len1 h; exact BindsTo.of_eq rfl
      case hps_113 => decide
      case hpn_113 => decide
      case hloc_113 => decide +kernel
      case hbody_113 =>
        intro cx O he
        have hsc : cx.env.scope = _ := congrArg Env.scope he
        exact (sCons (sAsg (sAttr O (C := 100) (k := 8) (at' := none) (sLoc O 10 (by kernel_rfl) (kindAt hsc (by kernel_rfl)) (by kernel_rfl)) (by kernel_rfl) (by decide) (hK ▸ kf_pg100 _) (hK ▸ kf_hd100 _) (hK ▸ kf_fi_norm _) rfl) (tTup O (.cons (tLoc O 3 (by kernel_rfl) (kindAt hsc (by kernel_rfl)) (by decide)) (fun _ => rfl) (.cons (tLoc O 12 (by kernel_rfl) (kindAt hsc (by kernel_rfl)) (by decide)) (fun _ => rfl) .nil)))) (sCons (sRet (sCall O (sBui O (hK ▸ kf_gb_max _) (by kernel_rfl) (by decide) (kindAt hsc (by kernel_rfl)) (by kernel_rfl)) (sArgs (sBin (sCall O (sBui O (hK ▸ kf_gb_len _) (by kernel_rfl) (by decide) (kindAt hsc (by kernel_rfl)) (by kernel_rfl)) (sArgs (sLoc O 3 (by kernel_rfl) (kindAt hsc (by kernel_rfl)) (by kernel_rfl)) sArgs0) (SF1 (cLen 0)) Kp.builtin (Nat.zero_le _)) sInt oSub) (sArgs (sLoc O 12 (by kernel_rfl) (kindAt hsc (by kernel_rfl)) (by kernel_rfl)) sArgs0)) (SF2 (cMax 0)) Kp.builtin (Nat.zero_le _))) sNil))
      all_goals first | rfl | decide
    have h_indent_level : ∀ (W : Wo) (hK : W.K = main.heap_1_39 W.w.params), SC W 1 (.ref 69) [] F_indent_level := by
      intro W hK
      clear h_law_name h_law_sign h_law_lies h_wsinit h_longest_run_of_spaces
      have kf_pg100 : ∀ (P : Params), plainGet (main.heap_1_39 P) 100 "x" = true := by
        intro P
        kernel_rfl
      have kf_hd100 : ∀ (P : Params), hasDictIn (main.heap_1_39 P) 100 = true := by
        intro P
        kernel_rfl
      have kf_fi_nt : ∀ (P : Params), findIn (main.heap_1_39 P) (.ref 100) "nt" = some none := by
        intro P
        kernel_rfl
      have kf_fi_norm : ∀ (P : Params), findIn (main.heap_1_39 P) (.ref 100) "norm" = some none := by
        intro P
        kernel_rfl
      have kf_gb_len : ∀ (P : Params), nsIn (main.heap_1_39 P) mainGlobals "len" = some none := by
        intro P
        kernel_rfl
      have kf_gb_range : ∀ (P : Params), nsIn (main.heap_1_39 P) mainGlobals "range" = some none := by
        intro P
        kernel_rfl
      refine' SC_def [] ?ho_114 ?hcd_114 ?hbind_114 ?hps_114 ?hpn_114 ?hloc_114 ?hbody_114 ?hco_114 ?hgen_114 ?hk_114 ?hcell_114
      case ho_114 => rw [hK]; rfl
      case hcd_114 => rw [hK]; kernel_rfl
      case hbind_114 => intro s xs X h; obtain ⟨x0, x1, rfl⟩ := len2 h; exact BindsTo.of_eq rfl
      case hps_114 => decide
      case hpn_114 => decide
      case hloc_114 => decide +kernel
      case hbody_114 =>
        intro cx O he
        have hsc : cx.env.scope = _ := congrArg Env.scope he
        exact (sCons (sAsg (sAttr O (C := 100) (k := 8) (at' := none) (sLoc O 10 (by kernel_rfl) (kindAt hsc (by kernel_rfl)) (by kernel_rfl)) (by kernel_rfl) (by decide) (hK ▸ kf_pg100 _) (hK ▸ kf_hd100 _) (hK ▸ kf_fi_norm _) rfl) (tTup O (.cons (tLoc O 3 (by kernel_rfl) (kindAt hsc (by kernel_rfl)) (by decide)) (fun _ => rfl) (.cons (tLoc O 12 (by kernel_rfl) (kindAt hsc (by kernel_rfl)) (by decide)) (fun _ => rfl) .nil)))) (sCons (sAsg sInt (tLoc O 14 (by kernel_rfl) (kindAt hsc (by kernel_rfl)) (by decide))) (sCons (sFor O 400 (sIter O (sCall O (sBui O (hK ▸ kf_gb_range _) (by kernel_rfl) (by decide) (kindAt hsc (by kernel_rfl)) (by kernel_rfl)) (sArgs (sLoc O 13 (by kernel_rfl) (kindAt hsc (by kernel_rfl)) (by kernel_rfl)) (sArgs (sCall O (sBui O (hK ▸ kf_gb_len _) (by kernel_rfl) (by decide) (kindAt hsc (by kernel_rfl)) (by kernel_rfl)) (sArgs (sLoc O 3 (by kernel_rfl) (kindAt hsc (by kernel_rfl)) (by kernel_rfl)) sArgs0) (SF1 (cLen 0)) Kp.builtin (Nat.zero_le _)) sArgs0)) (SF12 (cRange1 0) (cRange2 0)) Kp.type (Nat.zero_le _))) (fun pv => have O := O.wp pv; have hsc := hsc; (tLoc O 15 (by kernel_rfl) (kindAt hsc (by kernel_rfl)) (by decide))) (fun pv => have O := O.wp pv; have hsc := hsc; (sCons (sAsg (sBin (sLoc O 14 (by kernel_rfl) (kindAt hsc (by kernel_rfl)) (by kernel_rfl)) (sBin (sBin (sLoc O 15 (by kernel_rfl) (kindAt hsc (by kernel_rfl)) (by kernel_rfl)) (sLoc O 13 (by kernel_rfl) (kindAt hsc (by kernel_rfl)) (by kernel_rfl)) oDiv) (sSub (sLoc O 3 (by kernel_rfl) (kindAt hsc (by kernel_rfl)) (by kernel_rfl)) (sLoc O 15 (by kernel_rfl) (kindAt hsc (by kernel_rfl)) (by kernel_rfl))) oMul) oAdd) (tLoc O 14 (by kernel_rfl) (kindAt hsc (by kernel_rfl)) (by decide))) sNil))) (sCons (sRet (sBin (sLoc O 12 (by kernel_rfl) (kindAt hsc (by kernel_rfl)) (by kernel_rfl)) (sBin (sLoc O 13 (by kernel_rfl) (kindAt hsc (by kernel_rfl)) (by kernel_rfl)) (sBin (sLoc O 14 (by kernel_rfl) (kindAt hsc (by kernel_rfl)) (by kernel_rfl)) (sAttr O (C := 100) (k := 6) (at' := none) (sLoc O 10 (by kernel_rfl) (kindAt hsc (by kernel_rfl)) (by kernel_rfl)) (by kernel_rfl) (by decide) (hK ▸ kf_pg100 _) (hK ▸ kf_hd100 _) (hK ▸ kf_fi_nt _) rfl) oAdd) oMul) oAdd)) sNil))))
      all_goals first | rfl | decide
    have h_not_equal_witness : ∀ (W : Wo) (hK : W.K = main.heap_1_39 W.w.params), SC W 2 (.ref 83) [] F_not_equal_witness := by
      intro W hK
      clear h_law_name h_law_sign h_law_lies h_wsinit
      have kf_pg100 : ∀ (P : Params), plainGet (main.heap_1_39 P) 100 "x" = true := by
        intro P
        kernel_rfl
      have kf_me62 : ∀ (P : Params), findIn (main.heap_1_39 P) (.ref 100) "longest_run_of_spaces" = some (some (.ref 62)) := by
        intro P
        kernel_rfl
      have kf_fn62 : ∀ (P : Params), isFn (main.heap_1_39 P) (.ref 62) = true := by
        intro P
        kernel_rfl
      have kf_kp62 : ∀ (P : Params), keepIn (main.heap_1_39 P) (.ref 62) = true := by
        intro P
        kernel_rfl
      have kf_me69 : ∀ (P : Params), findIn (main.heap_1_39 P) (.ref 100) "indent_level" = some (some (.ref 69)) := by
        intro P
        kernel_rfl
      have kf_fn69 : ∀ (P : Params), isFn (main.heap_1_39 P) (.ref 69) = true := by
        intro P
        kernel_rfl
      have kf_kp69 : ∀ (P : Params), keepIn (main.heap_1_39 P) (.ref 69) = true := by
        intro P
        kernel_rfl
      have kf_gb_max : ∀ (P : Params), nsIn (main.heap_1_39 P) mainGlobals "max" = some none := by
        intro P
        kernel_rfl
      have kf_gb_range : ∀ (P : Params), nsIn (main.heap_1_39 P) mainGlobals "range" = some none := by
        intro P
        kernel_rfl
      have h_longest_run_of_spaces := (h_longest_run_of_spaces W hK).sf
      have h_indent_level := (h_indent_level W hK).sf
      refine' SC_def [] ?ho_115 ?hcd_115 ?hbind_115 ?hps_115 ?hpn_115 ?hloc_115 ?hbody_115 ?hco_115 ?hgen_115 ?hk_115 ?hcell_115
      case ho_115 => rw [hK]; rfl
      case hcd_115 => rw [hK]; kernel_rfl
      case hbind_115 => intro s xs X h; obtain ⟨x0, x1, rfl⟩ := len2 h; exact BindsTo.of_eq rfl
      case hps_115 => decide
      case hpn_115 => decide
      case hloc_115 => decide +kernel
      case hbody_115 =>
        intro cx O he
        have hsc : cx.env.scope = _ := congrArg Env.scope he
        exact (sCons (sAsg (sBin (sCall O (sBui O (hK ▸ kf_gb_max _) (by kernel_rfl) (by decide) (kindAt hsc (by kernel_rfl)) (by kernel_rfl)) (sArgs (sMeth O (C := 100) (f := 62) (sLoc O 10 (by kernel_rfl) (kindAt hsc (by kernel_rfl)) (by kernel_rfl)) sArgs0 h_longest_run_of_spaces (by decide) (Kp.of (hK ▸ kf_kp62 _)) (hK ▸ kf_pg100 _) (hK ▸ kf_me62 _) (hK ▸ kf_fn62 _) no_longest_run_of_spaces (fun _ => rfl)) (sArgs (sMeth O (C := 100) (f := 62) (sLoc O 16 (by kernel_rfl) (kindAt hsc (by kernel_rfl)) (by kernel_rfl)) sArgs0 h_longest_run_of_spaces (by decide) (Kp.of (hK ▸ kf_kp62 _)) (hK ▸ kf_pg100 _) (hK ▸ kf_me62 _) (hK ▸ kf_fn62 _) no_longest_run_of_spaces (fun _ => rfl)) sArgs0)) (SF2 (cMax 0)) Kp.builtin (Nat.zero_le _)) sInt oAdd) (tLoc O 5 (by kernel_rfl) (kindAt hsc (by kernel_rfl)) (by decide))) (sCons (sAsg (sLst sArgs0) (tLoc O 17 (by kernel_rfl) (kindAt hsc (by kernel_rfl)) (by decide))) (sCons (sFor O 400 (sIter O (sCall O (sBui O (hK ▸ kf_gb_range _) (by kernel_rfl) (by decide) (kindAt hsc (by kernel_rfl)) (by kernel_rfl)) (sArgs sInt (sArgs (sBin (sLoc O 5 (by kernel_rfl) (kindAt hsc (by kernel_rfl)) (by kernel_rfl)) sInt oAdd) sArgs0)) (SF12 (cRange1 0) (cRange2 0)) Kp.type (Nat.zero_le _))) (fun pv => have O := O.wp pv; have hsc := hsc; (tLoc O 18 (by kernel_rfl) (kindAt hsc (by kernel_rfl)) (by decide))) (fun pv => have O := O.wp pv; have hsc := hsc; (sCons (sIf (sCmpT (sMeth O (C := 100) (f := 69) (sLoc O 10 (by kernel_rfl) (kindAt hsc (by kernel_rfl)) (by kernel_rfl)) (sArgs (sLoc O 18 (by kernel_rfl) (kindAt hsc (by kernel_rfl)) (by kernel_rfl)) sArgs0) h_indent_level (by decide) (Kp.of (hK ▸ kf_kp69 _)) (hK ▸ kf_pg100 _) (hK ▸ kf_me69 _) (hK ▸ kf_fn69 _) no_indent_level (fun _ => rfl)) (sMeth O (C := 100) (f := 69) (sLoc O 16 (by kernel_rfl) (kindAt hsc (by kernel_rfl)) (by kernel_rfl)) (sArgs (sLoc O 18 (by kernel_rfl) (kindAt hsc (by kernel_rfl)) (by kernel_rfl)) sArgs0) h_indent_level (by decide) (Kp.of (hK ▸ kf_kp69 _)) (hK ▸ kf_pg100 _) (hK ▸ kf_me69 _) (hK ▸ kf_fn69 _) no_indent_level (fun _ => rfl)) (oNe O)) (sCons (sExpr (sMethB chkL O (sLoc O 17 (by kernel_rfl) (kindAt hsc (by kernel_rfl)) (by kernel_rfl)) (sArgs (sTup (sArgs (sLoc O 18 (by kernel_rfl) (kindAt hsc (by kernel_rfl)) (by kernel_rfl)) (sArgs (sMeth O (C := 100) (f := 69) (sLoc O 10 (by kernel_rfl) (kindAt hsc (by kernel_rfl)) (by kernel_rfl)) (sArgs (sLoc O 18 (by kernel_rfl) (kindAt hsc (by kernel_rfl)) (by kernel_rfl)) sArgs0) h_indent_level (by decide) (Kp.of (hK ▸ kf_kp69 _)) (hK ▸ kf_pg100 _) (hK ▸ kf_me69 _) (hK ▸ kf_fn69 _) no_indent_level (fun _ => rfl)) (sArgs (sMeth O (C := 100) (f := 69) (sLoc O 16 (by kernel_rfl) (kindAt hsc (by kernel_rfl)) (by kernel_rfl)) (sArgs (sLoc O 18 (by kernel_rfl) (kindAt hsc (by kernel_rfl)) (by kernel_rfl)) sArgs0) h_indent_level (by decide) (Kp.of (hK ▸ kf_kp69 _)) (hK ▸ kf_pg100 _) (hK ▸ kf_me69 _) (hK ▸ kf_fn69 _) no_indent_level (fun _ => rfl)) sArgs0)))) sArgs0) chkL_is SF_app (Nat.zero_le _) F.plainAttrs_list F.slot_list_append F.type_list_append (fun _ => rfl)) (fkAt hsc (by kernel_rfl))) sNil) sNil) sNil))) (sCons (sRet (sLoc O 17 (by kernel_rfl) (kindAt hsc (by kernel_rfl)) (by kernel_rfl))) sNil))))
      all_goals first | rfl | decide
    have h_Whitespace : ∀ (W : Wo) (hK : W.K = main.heap_1_39 W.w.params), SF W 2 (.ref 100) F_Whitespace := by
      intro W hK
      clear h_law_name h_law_sign h_law_lies h_longest_run_of_spaces h_indent_level h_not_equal_witness
      have kf_mk100 : ∀ (P : Params), makesIn (main.heap_1_39 P) 100 = true := by
        intro P
        kernel_rfl
      have kf_me55 : ∀ (P : Params), findIn (main.heap_1_39 P) (.ref 100) "__init__" = some (some (.ref 55)) := by
        intro P
        kernel_rfl
      have kf_fn55 : ∀ (P : Params), isFn (main.heap_1_39 P) (.ref 55) = true := by
        intro P
        kernel_rfl
      exact SF_cls (h_wsinit W hK) (hK ▸ kf_mk100 _) (hK ▸ kf_me55 _) (hK ▸ kf_fn55 _)
    have h_law_pieces : ∀ (W : Wo) (hK : W.K = main.heap_1_39 W.w.params) (h_int_divmod : SF W 30 (.ref 146) F_int_divmod), SC W 31 (.ref 313) [] F_law_pieces := by
      intro W hK h_int_divmod
      clear h_law_name h_law_sign h_law_lies h_wsinit h_longest_run_of_spaces h_indent_level
      have kf_pg100 : ∀ (P : Params), plainGet (main.heap_1_39 P) 100 "x" = true := by
        intro P
        kernel_rfl
      have kf_kp100 : ∀ (P : Params), keepIn (main.heap_1_39 P) (.ref 100) = true := by
        intro P
        kernel_rfl
      have kf_me83 : ∀ (P : Params), findIn (main.heap_1_39 P) (.ref 100) "not_equal_witness" = some (some (.ref 83)) := by
        intro P
        kernel_rfl
      have kf_fn83 : ∀ (P : Params), isFn (main.heap_1_39 P) (.ref 83) = true := by
        intro P
        kernel_rfl
      have kf_kp83 : ∀ (P : Params), keepIn (main.heap_1_39 P) (.ref 83) = true := by
        intro P
        kernel_rfl
      have kf_kp146 : ∀ (P : Params), keepIn (main.heap_1_39 P) (.ref 146) = true := by
        intro P
        kernel_rfl
      have kf_gl100 : ∀ (P : Params), nsIn (main.heap_1_39 P) mainGlobals "Whitespace" = some (some (.ref 100)) := by
        intro P
        kernel_rfl
      have kf_gl146 : ∀ (P : Params), nsIn (main.heap_1_39 P) mainGlobals "int_divmod" = some (some (.ref 146)) := by
        intro P
        kernel_rfl
      have kf_gb_max : ∀ (P : Params), nsIn (main.heap_1_39 P) mainGlobals "max" = some none := by
        intro P
        kernel_rfl
      have kf_gb_range : ∀ (P : Params), nsIn (main.heap_1_39 P) mainGlobals "range" = some none := by
        intro P
        kernel_rfl
      have kf_gb_list : ∀ (P : Params), nsIn (main.heap_1_39 P) mainGlobals "list" = some none := by
        intro P
        kernel_rfl
      have h_not_equal_witness := (h_not_equal_witness W hK).sf
      have h_Whitespace := h_Whitespace W hK
      refine' SC_def [] ?ho_117 ?hcd_117 ?hbind_117 ?hps_117 ?hpn_117 ?hloc_117 ?hbody_117 ?hco_117 ?hgen_117 ?hk_117 ?hcell_117
      case ho_117 => rw [hK]; rfl
      case hcd_117 => rw [hK]; kernel_rfl
      case hbind_117 => intro s xs X h; obtain ⟨x0, x1, x2, rfl⟩ := len3 h; exact BindsTo.of_eq rfl
      case hps_117 => decide
      case hpn_117 => decide
      case hloc_117 => decide +kernel
      case hbody_117 =>
        intro cx O he
        have hsc : cx.env.scope = _ := congrArg Env.scope he
        exact (sCons (sAsg (sBin (sStr (by kernel_rfl)) (sLoc O 61 (by kernel_rfl) (kindAt hsc (by kernel_rfl)) (by kernel_rfl)) oMul) (tLoc O 62 (by kernel_rfl) (kindAt hsc (by kernel_rfl)) (by decide))) (sCons (sAsg (sCall O (sGlob O (v := .ref 100) (hK ▸ kf_gl100 _) (kindAt hsc (by kernel_rfl)) (by kernel_rfl)) (sArgs (sBin (sBin (sBin (sBin (sBin (sStr (by kernel_rfl)) (sBin (sLoc O 3 (by kernel_rfl) (kindAt hsc (by kernel_rfl)) (by kernel_rfl)) sInt oSub) oMul) (sStr (by kernel_rfl)) oAdd) (sLoc O 60 (by kernel_rfl) (kindAt hsc (by kernel_rfl)) (by kernel_rfl)) oMul) (sLoc O 62 (by kernel_rfl) (kindAt hsc (by kernel_rfl)) (by kernel_rfl)) oAdd) (sStr (by kernel_rfl)) oAdd) sArgs0) h_Whitespace (Kp.of (hK ▸ kf_kp100 _)) (by decide)) (tLoc O 63 (by kernel_rfl) (kindAt hsc (by kernel_rfl)) (by decide))) (sCons (sAsg (sCall O (sGlob O (v := .ref 100) (hK ▸ kf_gl100 _) (kindAt hsc (by kernel_rfl)) (by kernel_rfl)) (sArgs (sBin (sBin (sBin (sBin (sBin (sStr (by kernel_rfl)) (sLoc O 3 (by kernel_rfl) (kindAt hsc (by kernel_rfl)) (by kernel_rfl)) oMul) (sStr (by kernel_rfl)) oAdd) (sLoc O 60 (by kernel_rfl) (kindAt hsc (by kernel_rfl)) (by kernel_rfl)) oMul) (sLoc O 62 (by kernel_rfl) (kindAt hsc (by kernel_rfl)) (by kernel_rfl)) oAdd) (sStr (by kernel_rfl)) oAdd) sArgs0) h_Whitespace (Kp.of (hK ▸ kf_kp100 _)) (by decide)) (tLoc O 64 (by kernel_rfl) (kindAt hsc (by kernel_rfl)) (by decide))) (sCons (sAsg (sCall O (sGlob O (v := .ref 100) (hK ▸ kf_gl100 _) (kindAt hsc (by kernel_rfl)) (by kernel_rfl)) (sArgs (sBin (sBin (sStr (by kernel_rfl)) (sBin (sBin (sLoc O 60 (by kernel_rfl) (kindAt hsc (by kernel_rfl)) (by kernel_rfl)) (sBin (sLoc O 3 (by kernel_rfl) (kindAt hsc (by kernel_rfl)) (by kernel_rfl)) sInt oAdd) oMul) sInt oAdd) oMul) (sLoc O 62 (by kernel_rfl) (kindAt hsc (by kernel_rfl)) (by kernel_rfl)) oAdd) sArgs0) h_Whitespace (Kp.of (hK ▸ kf_kp100 _)) (by decide)) (tLoc O 65 (by kernel_rfl) (kindAt hsc (by kernel_rfl)) (by decide))) (sCons (sAsg (sCall O (sBui O (hK ▸ kf_gb_list _) (by kernel_rfl) (by decide) (kindAt hsc (by kernel_rfl)) (by kernel_rfl)) (sArgs (sCall O (sBui O (hK ▸ kf_gb_range _) (by kernel_rfl) (by decide) (kindAt hsc (by kernel_rfl)) (by kernel_rfl)) (sArgs sInt (sArgs (sBin (sCall O (sBui O (hK ▸ kf_gb_max _) (by kernel_rfl) (by decide) (kindAt hsc (by kernel_rfl)) (by kernel_rfl)) (sArgs (sLoc O 3 (by kernel_rfl) (kindAt hsc (by kernel_rfl)) (by kernel_rfl)) (sArgs (sLoc O 61 (by kernel_rfl) (kindAt hsc (by kernel_rfl)) (by kernel_rfl)) sArgs0)) (SF2 (cMax 0)) Kp.builtin (Nat.zero_le _)) sInt oAdd) sArgs0)) (SF12 (cRange1 0) (cRange2 0)) Kp.type (Nat.zero_le _)) sArgs0) (SF1 (cList 0)) Kp.type (Nat.zero_le _)) (tLoc O 66 (by kernel_rfl) (kindAt hsc (by kernel_rfl)) (by decide))) (sCons (sIf (sCmpT (sComp O [] [] 400 (sIter O (sTup (sArgs (sTup (sArgs (sLoc O 65 (by kernel_rfl) (kindAt hsc (by kernel_rfl)) (by kernel_rfl)) (sArgs (sLoc O 64 (by kernel_rfl) (kindAt hsc (by kernel_rfl)) (by kernel_rfl)) sArgs0))) (sArgs (sTup (sArgs (sLoc O 64 (by kernel_rfl) (kindAt hsc (by kernel_rfl)) (by kernel_rfl)) (sArgs (sLoc O 65 (by kernel_rfl) (kindAt hsc (by kernel_rfl)) (by kernel_rfl)) sArgs0))) sArgs0)))) (fun _ O1 hs1 => have h1 := hs1.trans (congrArg (relabelS _) hsc); (tTup O1 (.cons (tLoc O1 74 (by kernel_rfl) (kindAt h1 (by kernel_rfl)) (by decide)) (fun _ => rfl) (.cons (tLoc O1 16 (by kernel_rfl) (kindAt h1 (by kernel_rfl)) (by decide)) (fun _ => rfl) .nil)))) (fun _ O1 hs1 => have h1 := hs1.trans (congrArg (relabelS _) hsc); ifs0) (fun _ O1 hs1 => have h1 := hs1.trans (congrArg (relabelS _) hsc); (sComp O1 [] [] 400 (sIter O1 (sMeth O1 (C := 100) (f := 83) (sLoc O1 74 (by kernel_rfl) (kindAt h1 (by kernel_rfl)) (by kernel_rfl)) (sArgs (sLoc O1 16 (by kernel_rfl) (kindAt h1 (by kernel_rfl)) (by kernel_rfl)) sArgs0) h_not_equal_witness (by decide) (Kp.of (hK ▸ kf_kp83 _)) (hK ▸ kf_pg100 _) (hK ▸ kf_me83 _) (hK ▸ kf_fn83 _) no_not_equal_witness (fun _ => rfl))) (fun _ O1 hs1 => have h1 := hs1.trans (congrArg (relabelS _) h1); (tLoc O1 75 (by kernel_rfl) (kindAt h1 (by kernel_rfl)) (by decide))) (fun _ O1 hs1 => have h1 := hs1.trans (congrArg (relabelS _) h1); ifs0) (fun _ O1 hs1 => have h1 := hs1.trans (congrArg (relabelS _) h1); (sSub (sLoc O1 75 (by kernel_rfl) (kindAt h1 (by kernel_rfl)) (by kernel_rfl)) sInt)) (by kernel_rfl) (by intro _; rfl) (by intro _ _; rfl) (by decide) (by kernel_rfl) (by decide))) (by kernel_rfl) (by intro _; rfl) (by intro _ _; rfl) (by decide) (by kernel_rfl) (by decide)) (sLst (sArgs (sLoc O 66 (by kernel_rfl) (kindAt hsc (by kernel_rfl)) (by kernel_rfl)) (sArgs (sLoc O 66 (by kernel_rfl) (kindAt hsc (by kernel_rfl)) (by kernel_rfl)) sArgs0))) (oNe O)) (sCons (sRet (sLst sArgs0)) sNil) sNil) (sCons (sAsg (sMeth O (C := 100) (f := 83) (sLoc O 63 (by kernel_rfl) (kindAt hsc (by kernel_rfl)) (by kernel_rfl)) (sArgs (sLoc O 64 (by kernel_rfl) (kindAt hsc (by kernel_rfl)) (by kernel_rfl)) sArgs0) h_not_equal_witness (by decide) (Kp.of (hK ▸ kf_kp83 _)) (hK ▸ kf_pg100 _) (hK ▸ kf_me83 _) (hK ▸ kf_fn83 _) no_not_equal_witness (fun _ => rfl)) (tLoc O 67 (by kernel_rfl) (kindAt hsc (by kernel_rfl)) (by decide))) (sCons (sIf (sCmpT (sMeth O (C := 100) (f := 83) (sLoc O 64 (by kernel_rfl) (kindAt hsc (by kernel_rfl)) (by kernel_rfl)) (sArgs (sLoc O 63 (by kernel_rfl) (kindAt hsc (by kernel_rfl)) (by kernel_rfl)) sArgs0) h_not_equal_witness (by decide) (Kp.of (hK ▸ kf_kp83 _)) (hK ▸ kf_pg100 _) (hK ▸ kf_me83 _) (hK ▸ kf_fn83 _) no_not_equal_witness (fun _ => rfl)) (sComp O [] [] 400 (sIter O (sLoc O 67 (by kernel_rfl) (kindAt hsc (by kernel_rfl)) (by kernel_rfl))) (fun _ O1 hs1 => have h1 := hs1.trans (congrArg (relabelS _) hsc); (tTup O1 (.cons (tLoc O1 68 (by kernel_rfl) (kindAt h1 (by kernel_rfl)) (by decide)) (fun _ => rfl) (.cons (tLoc O1 69 (by kernel_rfl) (kindAt h1 (by kernel_rfl)) (by decide)) (fun _ => rfl) (.cons (tLoc O1 70 (by kernel_rfl) (kindAt h1 (by kernel_rfl)) (by decide)) (fun _ => rfl) .nil))))) (fun _ O1 hs1 => have h1 := hs1.trans (congrArg (relabelS _) hsc); ifs0) (fun _ O1 hs1 => have h1 := hs1.trans (congrArg (relabelS _) hsc); (sTup (sArgs (sLoc O1 68 (by kernel_rfl) (kindAt h1 (by kernel_rfl)) (by kernel_rfl)) (sArgs (sLoc O1 70 (by kernel_rfl) (kindAt h1 (by kernel_rfl)) (by kernel_rfl)) (sArgs (sLoc O1 69 (by kernel_rfl) (kindAt h1 (by kernel_rfl)) (by kernel_rfl)) sArgs0))))) (by kernel_rfl) (by intro _; rfl) (by intro _ _; rfl) (by decide) (by kernel_rfl) (by decide)) (oNe O)) (sCons (sRet (sLst sArgs0)) sNil) sNil) (sCons (sAsg (sLst sArgs0) (tLoc O 71 (by kernel_rfl) (kindAt hsc (by kernel_rfl)) (by decide))) (sCons (sFor O 400 (sIter O (sLoc O 67 (by kernel_rfl) (kindAt hsc (by kernel_rfl)) (by kernel_rfl))) (fun pv => have O := O.wp pv; have hsc := hsc; (tTup O (.cons (tLoc O 68 (by kernel_rfl) (kindAt hsc (by kernel_rfl)) (by decide)) (fun _ => rfl) (.cons (tLoc O 69 (by kernel_rfl) (kindAt hsc (by kernel_rfl)) (by decide)) (fun _ => rfl) (.cons (tLoc O 70 (by kernel_rfl) (kindAt hsc (by kernel_rfl)) (by decide)) (fun _ => rfl) .nil))))) (fun pv => have O := O.wp pv; have hsc := hsc; (sCons (sAsg (sCall O (sGlob O (v := .ref 146) (hK ▸ kf_gl146 _) (kindAt hsc (by kernel_rfl)) (by kernel_rfl)) (sArgs (sBin (sLoc O 69 (by kernel_rfl) (kindAt hsc (by kernel_rfl)) (by kernel_rfl)) (sLoc O 61 (by kernel_rfl) (kindAt hsc (by kernel_rfl)) (by kernel_rfl)) oSub) (sArgs (sBin (sLoc O 60 (by kernel_rfl) (kindAt hsc (by kernel_rfl)) (by kernel_rfl)) (sLoc O 68 (by kernel_rfl) (kindAt hsc (by kernel_rfl)) (by kernel_rfl)) oMul) sArgs0)) h_int_divmod (Kp.of (hK ▸ kf_kp146 _)) (by decide)) (tTup O (.cons (tLoc O 72 (by kernel_rfl) (kindAt hsc (by kernel_rfl)) (by decide)) (fun _ => rfl) (.cons (tLoc O 73 (by kernel_rfl) (kindAt hsc (by kernel_rfl)) (by decide)) (fun _ => rfl) .nil)))) (sCons (sIf (sOr (sCmpT (sLoc O 73 (by kernel_rfl) (kindAt hsc (by kernel_rfl)) (by kernel_rfl)) sInt (oNe O)) (sCmpT (sBin (sLoc O 70 (by kernel_rfl) (kindAt hsc (by kernel_rfl)) (by kernel_rfl)) (sLoc O 69 (by kernel_rfl) (kindAt hsc (by kernel_rfl)) (by kernel_rfl)) oSub) (sBin (sLoc O 60 (by kernel_rfl) (kindAt hsc (by kernel_rfl)) (by kernel_rfl)) (sLoc O 68 (by kernel_rfl) (kindAt hsc (by kernel_rfl)) (by kernel_rfl)) oMul) (oNe O))) (sCons (sRet (sLst sArgs0)) sNil) sNil) (sCons (sExpr (sMethB chkL O (sLoc O 71 (by kernel_rfl) (kindAt hsc (by kernel_rfl)) (by kernel_rfl)) (sArgs (sTup (sArgs (sLoc O 72 (by kernel_rfl) (kindAt hsc (by kernel_rfl)) (by kernel_rfl)) (sArgs (sLoc O 68 (by kernel_rfl) (kindAt hsc (by kernel_rfl)) (by kernel_rfl)) sArgs0))) sArgs0) chkL_is SF_app (Nat.zero_le _) F.plainAttrs_list F.slot_list_append F.type_list_append (fun _ => rfl)) (fkAt hsc (by kernel_rfl))) sNil))))) (sCons (sRet (sLoc O 71 (by kernel_rfl) (kindAt hsc (by kernel_rfl)) (by kernel_rfl))) sNil)))))))))))
      all_goals first | rfl | decide
    have pat163 : ∀ (W : Wo) (hK : W.K = main.heap_1_39 W.w.params), PatOk W 163 := by
      intro W hK
      clear h_law_name h_law_sign h_law_lies h_wsinit h_longest_run_of_spaces h_indent_level h_not_equal_witness h_Whitespace h_law_pieces
      refine ⟨?o_118, ?fs_118, ?c_118, ?oc_118, ?items_118, ?n_118, ?l0_118, ?r1_118, ?r2_118, ?r3_118, ?l_118, ?d_118, ?g_118, ?r4_118, ?f_118, ?s_118⟩
      case l0_118 => rw [hK]; rfl
      case r1_118 => rfl
      case r2_118 => rfl
      case r3_118 => rfl
      case r4_118 => rfl
      case g_118 => rfl
      case l_118 => rw [hK]; rfl
      case d_118 => rfl
      case f_118 => kernel_rfl
      case s_118 => exact set_at setN (by kernel_rfl)
    have pat168 : ∀ (W : Wo) (hK : W.K = main.heap_1_39 W.w.params), PatOk W 168 := by
      intro W hK
      clear h_law_name h_law_sign h_law_lies h_wsinit h_longest_run_of_spaces h_indent_level h_not_equal_witness h_Whitespace h_law_pieces pat163
      refine ⟨?o_119, ?fs_119, ?c_119, ?oc_119, ?items_119, ?n_119, ?l0_119, ?r1_119, ?r2_119, ?r3_119, ?l_119, ?d_119, ?g_119, ?r4_119, ?f_119, ?s_119⟩
      case l0_119 => rw [hK]; rfl
      case r1_119 => rfl
      case r2_119 => rfl
      case r3_119 => rfl
      case r4_119 => rfl
      case g_119 => rfl
      case l_119 => rw [hK]; rfl
      case d_119 => rfl
      case f_119 => kernel_rfl
      case s_119 => exact set_at setV (by kernel_rfl)
    have h_hdinit : ∀ (W : Wo) (hK : W.K = main.heap_1_39 W.w.params), SC W 1 (.ref 191) [] F_hdinit := by
      intro W hK
      clear h_law_name h_law_sign h_law_lies h_wsinit h_longest_run_of_spaces h_indent_level h_not_equal_witness h_Whitespace h_law_pieces pat163 pat168
      have kf_hd297 : ∀ (P : Params), hasDictIn (main.heap_1_39 P) 297 = true := by
        intro P
        kernel_rfl
      have kf_sa297 : ∀ (P : Params), findIn (main.heap_1_39 P) (.ref 297) "__setattr__" = some (some (.builtin "object.__setattr__")) := by
        intro P
        kernel_rfl
      have kf_po297 : ∀ (P : Params), plainOver (main.heap_1_39 P) 297 = true := by
        intro P
        kernel_rfl
      have kf_tk_headers : ∀ (P : Params), takerIn (main.heap_1_39 P) 297 "_headers" = some none := by
        intro P
        kernel_rfl
      have kf_gb_list : ∀ (P : Params), nsIn (main.heap_1_39 P) mainGlobals "list" = some none := by
        intro P
        kernel_rfl
      have kf_gb_type : ∀ (P : Params), nsIn (main.heap_1_39 P) mainGlobals "type" = some none := by
        intro P
        kernel_rfl
      refine' SC_def [] ?ho_120 ?hcd_120 ?hbind_120 ?hps_120 ?hpn_120 ?hloc_120 ?hbody_120 ?hco_120 ?hgen_120 ?hk_120 ?hcell_120
      case ho_120 => rw [hK]; rfl
      case hcd_120 => rw [hK]; kernel_rfl
      case hbind_120 => intro s xs X h; obtain ⟨x0, x1, rfl⟩ := len2 h; exact binds_K X rfl (by rw [hK]; rfl) rfl rfl rfl
      case hps_120 => decide
      case hpn_120 => decide
      case hloc_120 => decide +kernel
      case hbody_120 =>
        intro cx O he
        have hsc : cx.env.scope = _ := congrArg Env.scope he
        exact (sCons (sAsg (sIfExp (sCmpT (sLoc O 48 (by kernel_rfl) (kindAt hsc (by kernel_rfl)) (by kernel_rfl)) sNone oIsNot) (sLoc O 48 (by kernel_rfl) (kindAt hsc (by kernel_rfl)) (by kernel_rfl)) (sLst sArgs0)) (tLoc O 48 (by kernel_rfl) (kindAt hsc (by kernel_rfl)) (by decide))) (sCons (sIf (sCmpT (sCall O (sBui O (hK ▸ kf_gb_type _) (by kernel_rfl) (by decide) (kindAt hsc (by kernel_rfl)) (by kernel_rfl)) (sArgs (sLoc O 48 (by kernel_rfl) (kindAt hsc (by kernel_rfl)) (by kernel_rfl)) sArgs0) (SF1 (cType 0)) Kp.type (Nat.zero_le _)) (sTy 2 (sBui O (hK ▸ kf_gb_list _) (by kernel_rfl) (by decide) (kindAt hsc (by kernel_rfl)) (by kernel_rfl)) rfl) oIsNot) (fun _ => TAt.bad) sNil) (sCons (sAsgA O (C := 297) (k := 49) (sLoc O 48 (by kernel_rfl) (kindAt hsc (by kernel_rfl)) (by kernel_rfl)) (sLoc O 10 (by kernel_rfl) (kindAt hsc (by kernel_rfl)) (by kernel_rfl)) (by kernel_rfl) (by decide) (hK ▸ kf_sa297 _) (hK ▸ kf_po297 _) (hK ▸ kf_tk_headers _) (hK ▸ kf_hd297 _)) (sCons (sIf (sTru sBool) (sCons (sFor O 400 (sIter O (sLoc O 48 (by kernel_rfl) (kindAt hsc (by kernel_rfl)) (by kernel_rfl))) (fun pv => have O := O.wp pv; have hsc := hsc; (tTup O (.cons (tLoc O 50 (by kernel_rfl) (kindAt hsc (by kernel_rfl)) (by decide)) (fun _ => rfl) (.cons (tLoc O 51 (by kernel_rfl) (kindAt hsc (by kernel_rfl)) (by decide)) (fun _ => rfl) .nil)))) (fun pv => have O := O.wp pv; have hsc := hsc; (fun _ => TAt.bad))) sNil) sNil) sNil))))
      all_goals first | rfl | decide
    have h_convert_string_type : ∀ (W : Wo) (hK : W.K = main.heap_1_39 W.w.params), SC W 2 (.ref 198) ["name"] F_convert_string_type := by
      intro W hK
      clear h_law_name h_law_sign h_law_lies h_wsinit h_longest_run_of_spaces h_indent_level h_not_equal_witness h_Whitespace h_law_pieces h_hdinit
      have kf_gl163 : ∀ (P : Params), nsIn (main.heap_1_39 P) mainGlobals "_name_disallowed_re" = some (some (.ref 163)) := by
        intro P
        kernel_rfl
      have kf_gl168 : ∀ (P : Params), nsIn (main.heap_1_39 P) mainGlobals "_value_disallowed_re" = some (some (.ref 168)) := by
        intro P
        kernel_rfl
      have kf_gb_type : ∀ (P : Params), nsIn (main.heap_1_39 P) mainGlobals "type" = some none := by
        intro P
        kernel_rfl
      have kf_gb_str : ∀ (P : Params), nsIn (main.heap_1_39 P) mainGlobals "str" = some none := by
        intro P
        kernel_rfl
      have pat1 := pat163 W hK
      have pat2 := pat168 W hK
      refine' SC_def ["name"] ?ho_121 ?hcd_121 ?hbind_121 ?hps_121 ?hpn_121 ?hloc_121 ?hbody_121 ?hco_121 ?hgen_121 ?hk_121 ?hcell_121
      case ho_121 => rw [hK]; rfl
      case hcd_121 => rw [hK]; kernel_rfl
      case hbind_121 => intro s xs X h; obtain ⟨x0, x1, x2, rfl⟩ := len3 h; exact BindsTo.of_eq rfl
      case hps_121 => decide
      case hpn_121 => decide
      case hloc_121 => decide +kernel
      case hbody_121 =>
        intro cx O he
        have hsc : cx.env.scope = _ := congrArg Env.scope he
        exact (sCons (sIf (sCmpT (sCall O (sBui O (hK ▸ kf_gb_type _) (by kernel_rfl) (by decide) (kindAt hsc (by kernel_rfl)) (by kernel_rfl)) (sArgs (sLoc O 46 (by kernel_rfl) (kindAt hsc (by kernel_rfl)) (by kernel_rfl)) sArgs0) (SF1 (cType 0)) Kp.type (Nat.zero_le _)) (sTy 0 (sBui O (hK ▸ kf_gb_str _) (by kernel_rfl) (by decide) (kindAt hsc (by kernel_rfl)) (by kernel_rfl)) rfl) oIs) (sCons (sAsg (sIfExp (sTru (sLoc O 52 (by kernel_rfl) (kindAt hsc (by kernel_rfl)) (by kernel_rfl))) (sGlob O (v := .ref 163) (hK ▸ kf_gl163 _) (kindAt hsc (by kernel_rfl)) (by kernel_rfl)) (sGlob O (v := .ref 168) (hK ▸ kf_gl168 _) (kindAt hsc (by kernel_rfl)) (by kernel_rfl))) (tLoc O 53 (by kernel_rfl) (kindAt hsc (by kernel_rfl)) (by decide))) (sCons (sIf (sTru (sMethB (chkP 163 168) O (sLoc O 53 (by kernel_rfl) (kindAt hsc (by kernel_rfl)) (by kernel_rfl)) (sArgs (sLoc O 46 (by kernel_rfl) (kindAt hsc (by kernel_rfl)) (by kernel_rfl)) sArgs0) (chkP_is pat1 pat2 O) (SF2 (cSearch pat1 pat2 0)) (Nat.zero_le _) plainAttrs_re slot_re_search type_re_search (fun _ => rfl))) (fun _ => TAt.bad) sNil) (sCons (sRet (sLoc O 46 (by kernel_rfl) (kindAt hsc (by kernel_rfl)) (by kernel_rfl))) sNil))) sNil) (fun _ => TAt.bad))
      all_goals first | rfl | decide
    have h_items : ∀ (W : Wo) (hK : W.K = main.heap_1_39 W.w.params), SC W 1 (.ref 261) [] F_items := by
      intro W hK
      clear h_law_name h_law_sign h_law_lies h_wsinit h_longest_run_of_spaces h_indent_level h_not_equal_witness h_Whitespace h_law_pieces pat163 pat168 h_hdinit h_convert_string_type
      have kf_pg297 : ∀ (P : Params), plainGet (main.heap_1_39 P) 297 "x" = true := by
        intro P
        kernel_rfl
      have kf_hd297 : ∀ (P : Params), hasDictIn (main.heap_1_39 P) 297 = true := by
        intro P
        kernel_rfl
      have kf_fi_headers : ∀ (P : Params), findIn (main.heap_1_39 P) (.ref 297) "_headers" = some none := by
        intro P
        kernel_rfl
      refine' SC_def [] ?ho_122 ?hcd_122 ?hbind_122 ?hps_122 ?hpn_122 ?hloc_122 ?hbody_122 ?hco_122 ?hgen_122 ?hk_122 ?hcell_122
      case ho_122 => rw [hK]; rfl
      case hcd_122 => rw [hK]; kernel_rfl
      case hbind_122 => intro s xs X h; obtain ⟨x0, rfl⟩ := len1 h; exact BindsTo.of_eq rfl
      case hps_122 => decide
      case hpn_122 => decide
      case hloc_122 => decide +kernel
      case hbody_122 =>
        intro cx O he
        have hsc : cx.env.scope = _ := congrArg Env.scope he
        exact (sCons (sRet (sAll (sAttr O (C := 297) (k := 49) (at' := none) (sLoc O 10 (by kernel_rfl) (kindAt hsc (by kernel_rfl)) (by kernel_rfl)) (by kernel_rfl) (by decide) (hK ▸ kf_pg297 _) (hK ▸ kf_hd297 _) (hK ▸ kf_fi_headers _) rfl))) sNil)
      all_goals first | rfl | decide
    have h_add_header : ∀ (W : Wo) (hK : W.K = main.heap_1_39 W.w.params), SC W 4 (.ref 294) [] F_add_header := by
      intro W hK
      clear h_law_name h_law_sign h_law_lies h_wsinit h_longest_run_of_spaces h_indent_level h_not_equal_witness h_Whitespace h_law_pieces pat163 pat168 h_hdinit h_items
      have kf_pg297 : ∀ (P : Params), plainGet (main.heap_1_39 P) 297 "x" = true := by
        intro P
        kernel_rfl
      have kf_hd297 : ∀ (P : Params), hasDictIn (main.heap_1_39 P) 297 = true := by
        intro P
        kernel_rfl
      have kf_fi_headers : ∀ (P : Params), findIn (main.heap_1_39 P) (.ref 297) "_headers" = some none := by
        intro P
        kernel_rfl
      have kf_me198 : ∀ (P : Params), findIn (main.heap_1_39 P) (.ref 297) "_convert_string_type" = some (some (.ref 198)) := by
        intro P
        kernel_rfl
      have kf_fn198 : ∀ (P : Params), isFn (main.heap_1_39 P) (.ref 198) = true := by
        intro P
        kernel_rfl
      have kf_kp198 : ∀ (P : Params), keepIn (main.heap_1_39 P) (.ref 198) = true := by
        intro P
        kernel_rfl
      have h_convert_string_type := h_convert_string_type W hK
      refine' SC_kw ?ho_123 ?hcd_123 ?hbind_123 ?hck_123 ?hcc_123 ?hps_123 ?hbody_123 ?hco_123 ?hgen_123 ?hk_123
      case ho_123 => rw [hK]; rfl
      case hcd_123 => rw [hK]; kernel_rfl
      case hbind_123 => intro xs h; obtain ⟨x0, x1, x2, rfl⟩ := len3 (Nat.succ.inj h); rfl
      case hck_123 => intro _; rfl
      case hcc_123 => intro _ _; rfl
      case hps_123 => decide +kernel
      case hbody_123 =>
        intro cx cells O he
        have hsc : cx.env.scope = _ := congrArg Env.scope he
        exact (sCons (sAsg (sLst sArgs0) (tLoc O 55 (by kernel_rfl) (kindAt hsc (by kernel_rfl)) (by decide))) (sCons (sIf (sCmpT (sLoc O 54 (by kernel_rfl) (kindAt hsc (by kernel_rfl)) (by kernel_rfl)) sNone oIsNot) (sCons (sAsg (sMethK O (C := 297) (f := 198) (sLoc O 10 (by kernel_rfl) (kindAt hsc (by kernel_rfl)) (by kernel_rfl)) (sLoc O 54 (by kernel_rfl) (kindAt hsc (by kernel_rfl)) (by kernel_rfl)) sBool h_convert_string_type (by decide) (hK ▸ kf_kp198 _) (hK ▸ kf_pg297 _) (hK ▸ kf_me198 _) (hK ▸ kf_fn198 _) no_convert_string_type (fun _ => rfl)) (tLoc O 54 (by kernel_rfl) (kindAt hsc (by kernel_rfl)) (by decide))) (sCons (sExpr (sMethB chkL O (sLoc O 55 (by kernel_rfl) (kindAt hsc (by kernel_rfl)) (by kernel_rfl)) (sArgs (sLoc O 54 (by kernel_rfl) (kindAt hsc (by kernel_rfl)) (by kernel_rfl)) sArgs0) chkL_is SF_app (Nat.zero_le _) F.plainAttrs_list F.slot_list_append F.type_list_append (fun _ => rfl)) (fkAt hsc (by kernel_rfl))) sNil)) sNil) (sCons (sForItems O 56 (by kernel_rfl) (kindAt hsc (by kernel_rfl)) (by kernel_rfl) (by rfl)) (sCons (sExpr (sMethB chkL O (sAttr O (C := 297) (k := 49) (at' := none) (sLoc O 10 (by kernel_rfl) (kindAt hsc (by kernel_rfl)) (by kernel_rfl)) (by kernel_rfl) (by decide) (hK ▸ kf_pg297 _) (hK ▸ kf_hd297 _) (hK ▸ kf_fi_headers _) rfl) (sArgs (sTup (sArgs (sMethK O (C := 297) (f := 198) (sLoc O 10 (by kernel_rfl) (kindAt hsc (by kernel_rfl)) (by kernel_rfl)) (sLoc O 57 (by kernel_rfl) (kindAt hsc (by kernel_rfl)) (by kernel_rfl)) sBool h_convert_string_type (by decide) (hK ▸ kf_kp198 _) (hK ▸ kf_pg297 _) (hK ▸ kf_me198 _) (hK ▸ kf_fn198 _) no_convert_string_type (fun _ => rfl)) (sArgs (sMethB chkS O (sStr (by kernel_rfl)) (sArgs (sLoc O 55 (by kernel_rfl) (kindAt hsc (by kernel_rfl)) (by kernel_rfl)) sArgs0) chkS_is (SF2 (cJoin 0)) (Nat.zero_le _) F.plainAttrs_str F.slot_str_join F.type_str_join (fun _ => rfl)) sArgs0))) sArgs0) chkL_is SF_app (Nat.zero_le _) F.plainAttrs_list F.slot_list_append F.type_list_append (fun _ => rfl)) (fkAt hsc (by kernel_rfl))) sNil))))
      all_goals first | rfl | decide
    have h_get_all : ∀ (W : Wo) (hK : W.K = main.heap_1_39 W.w.params), SC W 4 (.ref 236) [] F_get_all := by
      intro W hK
      clear h_law_name h_law_sign h_law_lies h_wsinit h_longest_run_of_spaces h_indent_level h_not_equal_witness h_Whitespace h_law_pieces pat163 pat168 h_hdinit h_items h_add_header
      have kf_pg297 : ∀ (P : Params), plainGet (main.heap_1_39 P) 297 "x" = true := by
        intro P
        kernel_rfl
      have kf_hd297 : ∀ (P : Params), hasDictIn (main.heap_1_39 P) 297 = true := by
        intro P
        kernel_rfl
      have kf_fi_headers : ∀ (P : Params), findIn (main.heap_1_39 P) (.ref 297) "_headers" = some none := by
        intro P
        kernel_rfl
      have kf_me198 : ∀ (P : Params), findIn (main.heap_1_39 P) (.ref 297) "_convert_string_type" = some (some (.ref 198)) := by
        intro P
        kernel_rfl
      have kf_fn198 : ∀ (P : Params), isFn (main.heap_1_39 P) (.ref 198) = true := by
        intro P
        kernel_rfl
      have kf_kp198 : ∀ (P : Params), keepIn (main.heap_1_39 P) (.ref 198) = true := by
        intro P
        kernel_rfl
      have h_convert_string_type := h_convert_string_type W hK
      refine' SC_cell [] ?ho_124 ?hcd_124 ?hbind_124 ?hck_124 ?hcc_124 ?hcks_124 ?hps_124 ?hbody_124 ?hco_124 ?hgen_124 ?hk_124
      case ho_124 => rw [hK]; rfl
      case hcd_124 => rw [hK]; kernel_rfl
      case hbind_124 => intro s xs X h; obtain ⟨x0, x1, rfl⟩ := len2 h; exact BindsTo.of_eq rfl
      case hck_124 => intro _; rfl
      case hcc_124 => intro _ _; rfl
      case hcks_124 => decide
      case hps_124 => decide +kernel
      case hbody_124 =>
        intro cx cells O he
        have hsc : cx.env.scope = _ := congrArg Env.scope he
        exact (sCons (sAsg (sMethK O (C := 297) (f := 198) (sLoc O 10 (by kernel_rfl) (kindAt hsc (by kernel_rfl)) (by kernel_rfl)) (sMethB chkS O (sCel O 52 (by kernel_rfl) (kindAt hsc (by kernel_rfl)) (by kernel_rfl)) sArgs0 chkS_is (SF1 (cLower 0)) (Nat.zero_le _) F.plainAttrs_str F.slot_str_lower F.type_str_lower (fun _ => rfl)) sBool h_convert_string_type (by decide) (hK ▸ kf_kp198 _) (hK ▸ kf_pg297 _) (hK ▸ kf_me198 _) (hK ▸ kf_fn198 _) no_convert_string_type (fun _ => rfl)) (tCel O 52 (by kernel_rfl) (kindAt hsc (by kernel_rfl)))) (sCons (sRet (sComp O [52] [] 400 (sIter O (sAttr O (C := 297) (k := 49) (at' := none) (sLoc O 10 (by kernel_rfl) (kindAt hsc (by kernel_rfl)) (by kernel_rfl)) (by kernel_rfl) (by decide) (hK ▸ kf_pg297 _) (hK ▸ kf_hd297 _) (hK ▸ kf_fi_headers _) rfl)) (fun _ O1 hs1 => have h1 := hs1.trans (congrArg (relabelS _) hsc); (tLoc O1 101 (by kernel_rfl) (kindAt h1 (by kernel_rfl)) (by decide))) (fun _ O1 hs1 => have h1 := hs1.trans (congrArg (relabelS _) hsc); (ifs1 (sCmpT (sMethB chkS O1 (sSub (sLoc O1 101 (by kernel_rfl) (kindAt h1 (by kernel_rfl)) (by kernel_rfl)) sInt) sArgs0 chkS_is (SF1 (cLower 0)) (Nat.zero_le _) F.plainAttrs_str F.slot_str_lower F.type_str_lower (fun _ => rfl)) (sCel O1 52 (by kernel_rfl) (kindAt h1 (by kernel_rfl)) (by kernel_rfl)) (oEq O1)))) (fun _ O1 hs1 => have h1 := hs1.trans (congrArg (relabelS _) hsc); (sSub (sLoc O1 101 (by kernel_rfl) (kindAt h1 (by kernel_rfl)) (by kernel_rfl)) sInt)) (by kernel_rfl) (by intro _; rfl) (by intro _ _; rfl) (by decide) (by kernel_rfl) (by decide))) sNil))
      all_goals first | rfl | decide
    have h_Headers : ∀ (W : Wo) (hK : W.K = main.heap_1_39 W.w.params), SF W 2 (.ref 297) F_Headers := by
      intro W hK
      clear h_law_name h_law_sign h_law_lies h_wsinit h_longest_run_of_spaces h_indent_level h_not_equal_witness h_Whitespace h_law_pieces pat163 pat168 h_convert_string_type h_items h_add_header h_get_all
      have kf_mk297 : ∀ (P : Params), makesIn (main.heap_1_39 P) 297 = true := by
        intro P
        kernel_rfl
      have kf_me191 : ∀ (P : Params), findIn (main.heap_1_39 P) (.ref 297) "__init__" = some (some (.ref 191)) := by
        intro P
        kernel_rfl
      have kf_fn191 : ∀ (P : Params), isFn (main.heap_1_39 P) (.ref 191) = true := by
        intro P
        kernel_rfl
      exact SF_cls (h_hdinit W hK) (hK ▸ kf_mk297 _) (hK ▸ kf_me191 _) (hK ▸ kf_fn191 _)
    have h_law_first : ∀ (W : Wo) (hK : W.K = main.heap_1_39 W.w.params) (h_law_octets : SF W 30 (.ref 327) F_law_octets), SC W 33 (.ref 341) [] F_law_first := by
      intro W hK h_law_octets
      clear h_law_name h_law_sign h_law_lies h_wsinit h_longest_run_of_spaces h_indent_level h_not_equal_witness h_Whitespace h_law_pieces pat163 pat168 h_hdinit h_convert_string_type h_get_all
      have kf_pg297 : ∀ (P : Params), plainGet (main.heap_1_39 P) 297 "x" = true := by
        intro P
        kernel_rfl
      have kf_kp297 : ∀ (P : Params), keepIn (main.heap_1_39 P) (.ref 297) = true := by
        intro P
        kernel_rfl
      have kf_me261 : ∀ (P : Params), findIn (main.heap_1_39 P) (.ref 297) "items" = some (some (.ref 261)) := by
        intro P
        kernel_rfl
      have kf_fn261 : ∀ (P : Params), isFn (main.heap_1_39 P) (.ref 261) = true := by
        intro P
        kernel_rfl
      have kf_kp261 : ∀ (P : Params), keepIn (main.heap_1_39 P) (.ref 261) = true := by
        intro P
        kernel_rfl
      have kf_me294 : ∀ (P : Params), findIn (main.heap_1_39 P) (.ref 297) "add_header" = some (some (.ref 294)) := by
        intro P
        kernel_rfl
      have kf_fn294 : ∀ (P : Params), isFn (main.heap_1_39 P) (.ref 294) = true := by
        intro P
        kernel_rfl
      have kf_kp294 : ∀ (P : Params), keepIn (main.heap_1_39 P) (.ref 294) = true := by
        intro P
        kernel_rfl
      have kf_kp327 : ∀ (P : Params), keepIn (main.heap_1_39 P) (.ref 327) = true := by
        intro P
        kernel_rfl
      have kf_gl297 : ∀ (P : Params), nsIn (main.heap_1_39 P) mainGlobals "Headers" = some (some (.ref 297)) := by
        intro P
        kernel_rfl
      have kf_gl327 : ∀ (P : Params), nsIn (main.heap_1_39 P) mainGlobals "_law_octets" = some (some (.ref 327)) := by
        intro P
        kernel_rfl
      have kf_gb_len : ∀ (P : Params), nsIn (main.heap_1_39 P) mainGlobals "len" = some none := by
        intro P
        kernel_rfl
      have kf_gb_range : ∀ (P : Params), nsIn (main.heap_1_39 P) mainGlobals "range" = some none := by
        intro P
        kernel_rfl
      have h_Headers := h_Headers W hK
      have h_add_header := (h_add_header W hK).sf
      have h_items := (h_items W hK).sf
      refine' SC_def [] ?ho_126 ?hcd_126 ?hbind_126 ?hps_126 ?hpn_126 ?hloc_126 ?hbody_126 ?hco_126 ?hgen_126 ?hk_126 ?hcell_126
      case ho_126 => rw [hK]; rfl
      case hcd_126 => rw [hK]; kernel_rfl
      case hbind_126 => intro s xs X h; obtain ⟨x0, x1, rfl⟩ := len2 h; exact BindsTo.of_eq rfl
      case hps_126 => decide
      case hpn_126 => decide
      case hloc_126 => decide +kernel
      case hbody_126 =>
        intro cx O he
        have hsc : cx.env.scope = _ := congrArg Env.scope he
        exact (sCons (sAsg (sCall O (sGlob O (v := .ref 297) (hK ▸ kf_gl297 _) (kindAt hsc (by kernel_rfl)) (by kernel_rfl)) (sArgs (sLst sArgs0) sArgs0) h_Headers (Kp.of (hK ▸ kf_kp297 _)) (by decide)) (tLoc O 81 (by kernel_rfl) (kindAt hsc (by kernel_rfl)) (by decide))) (sCons (sFor O 400 (sIter O (sLoc O 71 (by kernel_rfl) (kindAt hsc (by kernel_rfl)) (by kernel_rfl))) (fun pv => have O := O.wp pv; have hsc := hsc; (tTup O (.cons (tLoc O 17 (by kernel_rfl) (kindAt hsc (by kernel_rfl)) (by decide)) (fun _ => rfl) (.cons (tLoc O 79 (by kernel_rfl) (kindAt hsc (by kernel_rfl)) (by decide)) (fun _ => rfl) .nil)))) (fun pv => have O := O.wp pv; have hsc := hsc; (sCons (sFor O 400 (sIter O (sCall O (sBui O (hK ▸ kf_gb_range _) (by kernel_rfl) (by decide) (kindAt hsc (by kernel_rfl)) (by kernel_rfl)) (sArgs (sLoc O 79 (by kernel_rfl) (kindAt hsc (by kernel_rfl)) (by kernel_rfl)) sArgs0) (SF12 (cRange1 0) (cRange2 0)) Kp.type (Nat.zero_le _))) (fun pv => have O := O.wp pv; have hsc := hsc; (tLoc O 4 (by kernel_rfl) (kindAt hsc (by kernel_rfl)) (by decide))) (fun pv => have O := O.wp pv; have hsc := hsc; (sCons (sAsg (sBin (sBin (sCall O (sGlob O (v := .ref 327) (hK ▸ kf_gl327 _) (kindAt hsc (by kernel_rfl)) (by kernel_rfl)) (sArgs (sLoc O 17 (by kernel_rfl) (kindAt hsc (by kernel_rfl)) (by kernel_rfl)) sArgs0) h_law_octets (Kp.of (hK ▸ kf_kp327 _)) (by decide)) (sCall O (sGlob O (v := .ref 327) (hK ▸ kf_gl327 _) (kindAt hsc (by kernel_rfl)) (by kernel_rfl)) (sArgs (sBin (sLoc O 4 (by kernel_rfl) (kindAt hsc (by kernel_rfl)) (by kernel_rfl)) (sBin (sLoc O 35 (by kernel_rfl) (kindAt hsc (by kernel_rfl)) (by kernel_rfl)) (sLoc O 79 (by kernel_rfl) (kindAt hsc (by kernel_rfl)) (by kernel_rfl)) oMul) oAdd) sArgs0) h_law_octets (Kp.of (hK ▸ kf_kp327 _)) (by decide)) oAdd) (sCall O (sGlob O (v := .ref 327) (hK ▸ kf_gl327 _) (kindAt hsc (by kernel_rfl)) (by kernel_rfl)) (sArgs (sLoc O 79 (by kernel_rfl) (kindAt hsc (by kernel_rfl)) (by kernel_rfl)) sArgs0) h_law_octets (Kp.of (hK ▸ kf_kp327 _)) (by decide)) oAdd) (tLoc O 82 (by kernel_rfl) (kindAt hsc (by kernel_rfl)) (by decide))) (sCons (sExpr (sMeth O (C := 297) (f := 294) (sLoc O 81 (by kernel_rfl) (kindAt hsc (by kernel_rfl)) (by kernel_rfl)) (sArgs (sSub (sStr (by kernel_rfl)) (sCall O (sBui O (hK ▸ kf_gb_len _) (by kernel_rfl) (by decide) (kindAt hsc (by kernel_rfl)) (by kernel_rfl)) (sArgs (sMeth O (C := 297) (f := 261) (sLoc O 81 (by kernel_rfl) (kindAt hsc (by kernel_rfl)) (by kernel_rfl)) sArgs0 h_items (by decide) (Kp.of (hK ▸ kf_kp261 _)) (hK ▸ kf_pg297 _) (hK ▸ kf_me261 _) (hK ▸ kf_fn261 _) no_items (fun _ => rfl)) sArgs0) (SF1 (cLen 0)) Kp.builtin (Nat.zero_le _))) (sArgs (sLoc O 82 (by kernel_rfl) (kindAt hsc (by kernel_rfl)) (by kernel_rfl)) sArgs0)) h_add_header (by decide) (Kp.of (hK ▸ kf_kp294 _)) (hK ▸ kf_pg297 _) (hK ▸ kf_me294 _) (hK ▸ kf_fn294 _) no_add_header (fun _ => rfl)) (fkAt hsc (by kernel_rfl))) sNil)))) sNil))) (sCons (sRet (sLoc O 81 (by kernel_rfl) (kindAt hsc (by kernel_rfl)) (by kernel_rfl))) sNil)))
      all_goals first | rfl | decide
    have h_law_second : ∀ (W : Wo) (hK : W.K = main.heap_1_39 W.w.params) (h_int_divmod : SF W 30 (.ref 146) F_int_divmod) (h_parse_varint : SF W 30 (.ref 153) F_parse_varint) (h_law_ends : SCx W Pr1 32 (.ref 348) F_law_ends), SCx W Pr0 35 (.ref 353) F_law_second := by
      intro W hK h_int_divmod h_parse_varint h_law_ends
      clear h_law_sign h_law_lies h_wsinit h_longest_run_of_spaces h_indent_level h_not_equal_witness h_Whitespace h_law_pieces pat163 pat168 h_hdinit h_convert_string_type h_get_all h_law_first
      have kf_pg297 : ∀ (P : Params), plainGet (main.heap_1_39 P) 297 "x" = true := by
        intro P
        kernel_rfl
      have kf_kp297 : ∀ (P : Params), keepIn (main.heap_1_39 P) (.ref 297) = true := by
        intro P
        kernel_rfl
      have kf_me261 : ∀ (P : Params), findIn (main.heap_1_39 P) (.ref 297) "items" = some (some (.ref 261)) := by
        intro P
        kernel_rfl
      have kf_fn261 : ∀ (P : Params), isFn (main.heap_1_39 P) (.ref 261) = true := by
        intro P
        kernel_rfl
      have kf_kp261 : ∀ (P : Params), keepIn (main.heap_1_39 P) (.ref 261) = true := by
        intro P
        kernel_rfl
      have kf_me294 : ∀ (P : Params), findIn (main.heap_1_39 P) (.ref 297) "add_header" = some (some (.ref 294)) := by
        intro P
        kernel_rfl
      have kf_fn294 : ∀ (P : Params), isFn (main.heap_1_39 P) (.ref 294) = true := by
        intro P
        kernel_rfl
      have kf_kp294 : ∀ (P : Params), keepIn (main.heap_1_39 P) (.ref 294) = true := by
        intro P
        kernel_rfl
      have kf_kp146 : ∀ (P : Params), keepIn (main.heap_1_39 P) (.ref 146) = true := by
        intro P
        kernel_rfl
      have kf_kp153 : ∀ (P : Params), keepIn (main.heap_1_39 P) (.ref 153) = true := by
        intro P
        kernel_rfl
      have kf_kp334 : ∀ (P : Params), keepIn (main.heap_1_39 P) (.ref 334) = true := by
        intro P
        kernel_rfl
      have kf_kp348 : ∀ (P : Params), keepIn (main.heap_1_39 P) (.ref 348) = true := by
        intro P
        kernel_rfl
      have kf_gl297 : ∀ (P : Params), nsIn (main.heap_1_39 P) mainGlobals "Headers" = some (some (.ref 297)) := by
        intro P
        kernel_rfl
      have kf_gl146 : ∀ (P : Params), nsIn (main.heap_1_39 P) mainGlobals "int_divmod" = some (some (.ref 146)) := by
        intro P
        kernel_rfl
      have kf_gl153 : ∀ (P : Params), nsIn (main.heap_1_39 P) mainGlobals "_parse_varint" = some (some (.ref 153)) := by
        intro P
        kernel_rfl
      have kf_gl334 : ∀ (P : Params), nsIn (main.heap_1_39 P) mainGlobals "_law_name" = some (some (.ref 334)) := by
        intro P
        kernel_rfl
      have kf_gl348 : ∀ (P : Params), nsIn (main.heap_1_39 P) mainGlobals "_law_ends" = some (some (.ref 348)) := by
        intro P
        kernel_rfl
      have kf_gb_range : ∀ (P : Params), nsIn (main.heap_1_39 P) mainGlobals "range" = some none := by
        intro P
        kernel_rfl
      have kf_gb_ord : ∀ (P : Params), nsIn (main.heap_1_39 P) mainGlobals "ord" = some none := by
        intro P
        kernel_rfl
      have kf_gb_type : ∀ (P : Params), nsIn (main.heap_1_39 P) mainGlobals "type" = some none := by
        intro P
        kernel_rfl
      have kf_gb_iter : ∀ (P : Params), nsIn (main.heap_1_39 P) mainGlobals "iter" = some none := by
        intro P
        kernel_rfl
      have kf_gb_int : ∀ (P : Params), nsIn (main.heap_1_39 P) mainGlobals "int" = some none := by
        intro P
        kernel_rfl
      have h_Headers := h_Headers W hK
      have h_add_header := (h_add_header W hK).sf
      have h_items := (h_items W hK).sf
      have h_law_name := (h_law_name W hK).sf
      refine' SCx_cell ?ho_127 ?hcd_127 ?hbind_127 ?hck_127 ?hcc_127 ?hcks_127 ?hps_127 ?hbody_127 ?hco_127 ?hgen_127 ?hk_127
      case ho_127 => rw [hK]; rfl
      case hcd_127 => rw [hK]; kernel_rfl
      case hbind_127 => intro s xs X h; obtain ⟨x0, x1, x2, rfl⟩ := len3 h; exact BindsTo.of_eq rfl
      case hck_127 => intro _; rfl
      case hcc_127 => intro _ _; rfl
      case hcks_127 => decide
      case hps_127 => decide +kernel
      case hbody_127 =>
        intro cx cells O hfro he
        have hsc : cx.env.scope = _ := congrArg Env.scope he
        exact (sCons (sAsg (sCall O (sGlob O (v := .ref 297) (hK ▸ kf_gl297 _) (kindAt hsc (by kernel_rfl)) (by kernel_rfl)) (sArgs (sLst sArgs0) sArgs0) h_Headers (Kp.of (hK ▸ kf_kp297 _)) (by decide)) (tLoc O 81 (by kernel_rfl) (kindAt hsc (by kernel_rfl)) (by decide))) (sCons (sFor O 400 (sIter O (sMeth O (C := 297) (f := 261) (sLoc O 84 (by kernel_rfl) (kindAt hsc (by kernel_rfl)) (by kernel_rfl)) sArgs0 h_items (by decide) (Kp.of (hK ▸ kf_kp261 _)) (hK ▸ kf_pg297 _) (hK ▸ kf_me261 _) (hK ▸ kf_fn261 _) no_items (fun _ => rfl))) (fun pv => have O := O.wp pv; have hsc := hsc; (tTup O (.cons (tLoc O 52 (by kernel_rfl) (kindAt hsc (by kernel_rfl)) (by decide)) (fun _ => rfl) (.cons (tLoc O 82 (by kernel_rfl) (kindAt hsc (by kernel_rfl)) (by decide)) (fun _ => rfl) .nil)))) (fun pv => have O := O.wp pv; have hsc := hsc; (sCons (sAsg (sCall O (sBui O (hK ▸ kf_gb_iter _) (by kernel_rfl) (by decide) (kindAt hsc (by kernel_rfl)) (by kernel_rfl)) (sArgs (sOrds 82 91 fun fuel => (sComp O [] [] fuel (sIter O (sLoc O 82 (by kernel_rfl) (kindAt hsc (by kernel_rfl)) (by kernel_rfl))) (fun _ O1 hs1 => have h1 := hs1.trans (congrArg (relabelS _) hsc); (tLoc O1 91 (by kernel_rfl) (kindAt h1 (by kernel_rfl)) (by decide))) (fun _ O1 hs1 => have h1 := hs1.trans (congrArg (relabelS _) hsc); ifs0) (fun _ O1 hs1 => have h1 := hs1.trans (congrArg (relabelS _) hsc); (sCall O1 (sBui O1 (hK ▸ kf_gb_ord _) (by kernel_rfl) (by decide) (kindAt h1 (by kernel_rfl)) (by kernel_rfl)) (sArgs (sLoc O1 91 (by kernel_rfl) (kindAt h1 (by kernel_rfl)) (by kernel_rfl)) sArgs0) (SF1 (cOrd 0)) Kp.builtin (Nat.zero_le _))) (by kernel_rfl) (by intro _; rfl) (by intro _ _; rfl) (by decide) (by kernel_rfl) (by decide))) sArgs0) (SF1 (cIterP 0)) Kp.builtin (Nat.zero_le _)) (tCel O 83 (by kernel_rfl) (kindAt hsc (by kernel_rfl)))) (sCons (sAsg (sComp O [83] [] 400 (sIter O (sCall O (sBui O (hK ▸ kf_gb_range _) (by kernel_rfl) (by decide) (kindAt hsc (by kernel_rfl)) (by kernel_rfl)) (sArgs sInt sArgs0) (SF12 (cRange1 0) (cRange2 0)) Kp.type (Nat.zero_le _))) (fun _ O1 hs1 => have h1 := hs1.trans (congrArg (relabelS _) hsc); (tLoc O1 50 (by kernel_rfl) (kindAt h1 (by kernel_rfl)) (by decide))) (fun _ O1 hs1 => have h1 := hs1.trans (congrArg (relabelS _) hsc); ifs0) (fun _ O1 hs1 => have h1 := hs1.trans (congrArg (relabelS _) hsc); (sCall O1 (sGlob O1 (v := .ref 153) (hK ▸ kf_gl153 _) (kindAt h1 (by kernel_rfl)) (by kernel_rfl)) (sArgs (sCel O1 83 (by kernel_rfl) (kindAt h1 (by kernel_rfl)) (by kernel_rfl)) sArgs0) h_parse_varint (Kp.of (hK ▸ kf_kp153 _)) (by decide))) (by kernel_rfl) (by intro _; rfl) (by intro _ _; rfl) (by decide) (by kernel_rfl) (by decide)) (tTup O (.cons (tLoc O 17 (by kernel_rfl) (kindAt hsc (by kernel_rfl)) (by decide)) (fun _ => rfl) (.cons (tLoc O 4 (by kernel_rfl) (kindAt hsc (by kernel_rfl)) (by decide)) (fun _ => rfl) (.cons (tLoc O 79 (by kernel_rfl) (kindAt hsc (by kernel_rfl)) (by decide)) (fun _ => rfl) .nil))))) (sCons (sIf (sOr (sNot (sTru (sCallX O hfro (sGlob O (v := .ref 348) (hK ▸ kf_gl348 _) (kindAt hsc (by kernel_rfl)) (by kernel_rfl)) (sArgs (sCel O 83 (by kernel_rfl) (kindAt hsc (by kernel_rfl)) (by kernel_rfl)) sArgs0) h_law_ends (Kp.of (hK ▸ kf_kp348 _)) (by decide)))) (sCmpT (sBin (sLoc O 4 (by kernel_rfl) (kindAt hsc (by kernel_rfl)) (by kernel_rfl)) (sLoc O 79 (by kernel_rfl) (kindAt hsc (by kernel_rfl)) (by kernel_rfl)) oDiv) (sLoc O 35 (by kernel_rfl) (kindAt hsc (by kernel_rfl)) (by kernel_rfl)) (oNe O))) (sCons (sRet sNone) sNil) sNil) (sCons (sFor O 400 (sIter O (sLoc O 71 (by kernel_rfl) (kindAt hsc (by kernel_rfl)) (by kernel_rfl))) (fun pv => have O := O.wp pv; have hsc := hsc; (tTup O (.cons (tLoc O 85 (by kernel_rfl) (kindAt hsc (by kernel_rfl)) (by decide)) (fun _ => rfl) (.cons (tLoc O 86 (by kernel_rfl) (kindAt hsc (by kernel_rfl)) (by decide)) (fun _ => rfl) .nil)))) (fun pv => have O := O.wp pv; have hsc := hsc; (sCons (sAsg (sIfExp (sCmpT (sLoc O 52 (by kernel_rfl) (kindAt hsc (by kernel_rfl)) (by kernel_rfl)) (sStr (by kernel_rfl)) oInB) (sBin (sBin sInt (sLoc O 85 (by kernel_rfl) (kindAt hsc (by kernel_rfl)) (by kernel_rfl)) oMul) (sLoc O 35 (by kernel_rfl) (kindAt hsc (by kernel_rfl)) (by kernel_rfl)) oMul) sInt) (tLoc O 88 (by kernel_rfl) (kindAt hsc (by kernel_rfl)) (by decide))) (sCons (sFor O 400 (sIter O (sCall O (sBui O (hK ▸ kf_gb_range _) (by kernel_rfl) (by decide) (kindAt hsc (by kernel_rfl)) (by kernel_rfl)) (sArgs (sLoc O 88 (by kernel_rfl) (kindAt hsc (by kernel_rfl)) (by kernel_rfl)) (sArgs (sBin (sLoc O 88 (by kernel_rfl) (kindAt hsc (by kernel_rfl)) (by kernel_rfl)) (sLoc O 86 (by kernel_rfl) (kindAt hsc (by kernel_rfl)) (by kernel_rfl)) oAdd) sArgs0)) (SF12 (cRange1 0) (cRange2 0)) Kp.type (Nat.zero_le _))) (fun pv => have O := O.wp pv; have hsc := hsc; (tLoc O 87 (by kernel_rfl) (kindAt hsc (by kernel_rfl)) (by decide))) (fun pv => have O := O.wp pv; have hsc := hsc; (sCons (sAsg (sBin (sBin (sLoc O 87 (by kernel_rfl) (kindAt hsc (by kernel_rfl)) (by kernel_rfl)) (sLoc O 79 (by kernel_rfl) (kindAt hsc (by kernel_rfl)) (by kernel_rfl)) oMul) (sBin (sLoc O 85 (by kernel_rfl) (kindAt hsc (by kernel_rfl)) (by kernel_rfl)) (sLoc O 4 (by kernel_rfl) (kindAt hsc (by kernel_rfl)) (by kernel_rfl)) oMul) oSub) (tLoc O 89 (by kernel_rfl) (kindAt hsc (by kernel_rfl)) (by decide))) (sCons (sAsg (sCall O (sGlob O (v := .ref 146) (hK ▸ kf_gl146 _) (kindAt hsc (by kernel_rfl)) (by kernel_rfl)) (sArgs (sLoc O 89 (by kernel_rfl) (kindAt hsc (by kernel_rfl)) (by kernel_rfl)) (sArgs (sBin (sUn (sLoc O 86 (by kernel_rfl) (kindAt hsc (by kernel_rfl)) (by kernel_rfl)) oNeg) (sLoc O 79 (by kernel_rfl) (kindAt hsc (by kernel_rfl)) (by kernel_rfl)) oMul) sArgs0)) h_int_divmod (Kp.of (hK ▸ kf_kp146 _)) (by decide)) (tTup O (.cons (tLoc O 72 (by kernel_rfl) (kindAt hsc (by kernel_rfl)) (by decide)) (fun _ => rfl) (.cons (tLoc O 73 (by kernel_rfl) (kindAt hsc (by kernel_rfl)) (by decide)) (fun _ => rfl) .nil)))) (sCons (sIf (sCmpT (sLst (sArgs (sCmp (sCall O (sBui O (hK ▸ kf_gb_type _) (by kernel_rfl) (by decide) (kindAt hsc (by kernel_rfl)) (by kernel_rfl)) (sArgs (sLoc O 72 (by kernel_rfl) (kindAt hsc (by kernel_rfl)) (by kernel_rfl)) sArgs0) (SF1 (cType 0)) Kp.type (Nat.zero_le _)) (sTy 1 (sBui O (hK ▸ kf_gb_int _) (by kernel_rfl) (by decide) (kindAt hsc (by kernel_rfl)) (by kernel_rfl)) rfl) oIs) (sArgs (sCmp (sCall O (sBui O (hK ▸ kf_gb_type _) (by kernel_rfl) (by decide) (kindAt hsc (by kernel_rfl)) (by kernel_rfl)) (sArgs (sLoc O 73 (by kernel_rfl) (kindAt hsc (by kernel_rfl)) (by kernel_rfl)) sArgs0) (SF1 (cType 0)) Kp.type (Nat.zero_le _)) (sTy 1 (sBui O (hK ▸ kf_gb_int _) (by kernel_rfl) (by decide) (kindAt hsc (by kernel_rfl)) (by kernel_rfl)) rfl) oIs) (sArgs (sCmp (sBin (sLoc O 73 (by kernel_rfl) (kindAt hsc (by kernel_rfl)) (by kernel_rfl)) (sBin (sBin (sLoc O 72 (by kernel_rfl) (kindAt hsc (by kernel_rfl)) (by kernel_rfl)) (sLoc O 86 (by kernel_rfl) (kindAt hsc (by kernel_rfl)) (by kernel_rfl)) oMul) (sLoc O 79 (by kernel_rfl) (kindAt hsc (by kernel_rfl)) (by kernel_rfl)) oMul) oSub) (sLoc O 89 (by kernel_rfl) (kindAt hsc (by kernel_rfl)) (by kernel_rfl)) (oEq O)) sArgs0)))) (sLst (sArgs sBool (sArgs sBool (sArgs sBool sArgs0)))) (oNe O)) (sCons (sRet sNone) sNil) sNil) (sCons (sAsg (sCall O (sGlob O (v := .ref 334) (hK ▸ kf_gl334 _) (kindAt hsc (by kernel_rfl)) (by kernel_rfl)) (sArgs (sBin (sLoc O 85 (by kernel_rfl) (kindAt hsc (by kernel_rfl)) (by kernel_rfl)) (sLoc O 17 (by kernel_rfl) (kindAt hsc (by kernel_rfl)) (by kernel_rfl)) oMul) (sArgs (sUn (sLoc O 73 (by kernel_rfl) (kindAt hsc (by kernel_rfl)) (by kernel_rfl)) oNeg) (sArgs (sBin (sLoc O 86 (by kernel_rfl) (kindAt hsc (by kernel_rfl)) (by kernel_rfl)) (sLoc O 79 (by kernel_rfl) (kindAt hsc (by kernel_rfl)) (by kernel_rfl)) oMul) sArgs0))) h_law_name (Kp.of (hK ▸ kf_kp334 _)) (by decide)) (tLoc O 90 (by kernel_rfl) (kindAt hsc (by kernel_rfl)) (by decide))) (sCons (sIf (sCmpT (sMeth O (C := 297) (f := 294) (sLoc O 81 (by kernel_rfl) (kindAt hsc (by kernel_rfl)) (by kernel_rfl)) (sArgs (sIfExp (sCmpT (sLoc O 52 (by kernel_rfl) (kindAt hsc (by kernel_rfl)) (by kernel_rfl)) (sStr (by kernel_rfl)) oInB) (sMethB chkS O (sLoc O 90 (by kernel_rfl) (kindAt hsc (by kernel_rfl)) (by kernel_rfl)) sArgs0 chkS_is (SF1 (cUpper 0)) (Nat.zero_le _) F.plainAttrs_str F.slot_str_upper F.type_str_upper (fun _ => rfl)) (sLoc O 90 (by kernel_rfl) (kindAt hsc (by kernel_rfl)) (by kernel_rfl))) (sArgs (sLoc O 52 (by kernel_rfl) (kindAt hsc (by kernel_rfl)) (by kernel_rfl)) sArgs0)) h_add_header (by decide) (Kp.of (hK ▸ kf_kp294 _)) (hK ▸ kf_pg297 _) (hK ▸ kf_me294 _) (hK ▸ kf_fn294 _) no_add_header (fun _ => rfl)) sNone oIsNot) (sCons (sRet sNone) sNil) sNil) sNil))))))) sNil)))) sNil)))))) (sCons (sRet (sLoc O 81 (by kernel_rfl) (kindAt hsc (by kernel_rfl)) (by kernel_rfl))) sNil)))
      all_goals first | rfl | decide
    have numG : ∀ {W : Wo} {cx : Cx} {n : Nat} {pos : Pos} (O : Ok W n cx) (hK : W.K = main.heap_1_39 W.w.params) (hk : cx.env.kindOf "_DIV_LIMIT" = some .globalImplicit), ∃ t, TE W cx (.Name "_DIV_LIMIT" pos) (ret (.wr (.int 4000 t))) := by
      intro W cx n pos O hK hk
      clear h_law_name h_law_sign h_law_lies h_wsinit h_longest_run_of_spaces h_indent_level h_not_equal_witness h_Whitespace h_law_pieces pat163 pat168 h_hdinit h_convert_string_type h_items h_add_header h_get_all h_Headers h_law_first h_law_second
      have kf_glDL : ∀ (P : Params), ∃ t, nsIn (main.heap_1_39 P) mainGlobals "_DIV_LIMIT" = some (some (.int 4000 t)) := by
        intro P
        exact ⟨_, rfl⟩
      obtain ⟨t, e⟩ := kf_glDL W.w.params
      exact ⟨t, sGlob O (hK ▸ e) hk rfl⟩
    have g_in1 : ∀ (W : Wo) (hK : W.K = main.heap_1_39 W.w.params) (h1 : ∀ cs o, W.fs 0 cs o ↔ tabP (N1 (main.heap_1_39 W.w.params)) cs o) (h2 : ∀ cs o, W.fs 1 cs o ↔ codP (N1 (main.heap_1_39 W.w.params)) cs o) (h3 : ∀ cs o, W.fs 2 cs o ↔ funP (N1 (main.heap_1_39 W.w.params)) cs o) (h4 : ∀ cs o, W.fs 3 cs o ↔ tabP (N2 (main.heap_1_39 W.w.params)) cs o) (h5 : ∀ cs o, W.fs 4 cs o ↔ codP (N2 (main.heap_1_39 W.w.params)) cs o) (h6 : ∀ cs o, W.fs 5 cs o ↔ funP (N2 (main.heap_1_39 W.w.params)) cs o), ∀ m, SV W m 2 (G_in1 m) := by
      intro W hK h1 h2 h3 h4 h5 h6 m
      clear h_law_name h_law_sign h_law_lies h_wsinit h_longest_run_of_spaces h_indent_level h_not_equal_witness h_Whitespace h_law_pieces pat163 pat168 h_hdinit h_convert_string_type h_items h_add_header h_get_all h_Headers h_law_first h_law_second numG
      induction m with
      | zero => exact fun _ _ _ _ _ _ _ _ _ _ _ _ _ _ _ e => nomatch e
      | succ m hG =>
        refine' SV_def (N := N1 (main.heap_1_39 W.w.params)) (idC := 1) h3 h2 ?hbind_129 ?hck_129 ?hcc_129 ?hcks_129 ?hfk_129 ?hps_129 ?hbody_129 ?hco_129 ?hgen_129 ?hk_129
        case hbind_129 => intro xs h cl doc pm cdv ct; obtain ⟨x0, x1, x2, rfl⟩ := len3 h; rfl
        case hck_129 => intro _; rfl
        case hcc_129 => intro _ _; rfl
        case hcks_129 => decide
        case hfk_129 => exact (by decide : ([30, 38, 5] : List Nat).Nodup ∧ ∀ k ∈ ([30, 38, 5] : List Nat), k < NN ∧ k ∉ ([] : List Nat))
        case hps_129 =>
          intro p hp
          rcases List.mem_cons.mp hp with rfl | hp
          · exact ⟨by decide, by kernel_rfl⟩
          rcases List.mem_cons.mp hp with rfl | hp
          · exact ⟨by decide, by kernel_rfl⟩
          rcases List.mem_cons.mp hp with rfl | hp
          · exact ⟨by decide, by kernel_rfl⟩
          cases hp
        case hbody_129 =>
          intro cx O hsc
          exact (sCons (sIf (sCmpT (sBin (sLoc O 32 (by kernel_rfl) (kindAt hsc (by kernel_rfl)) (by kernel_rfl)) sInt oAdd) (sLoc O 33 (by kernel_rfl) (kindAt hsc (by kernel_rfl)) (by kernel_rfl)) (oEq O)) (sCons (sAsgS (sLoc O 31 (by kernel_rfl) (kindAt hsc (by kernel_rfl)) (by kernel_rfl)) (sFree O 30 (by kernel_rfl) (kindAt hsc (by kernel_rfl)) (by kernel_rfl) (by kernel_rfl)) (sLoc O 32 (by kernel_rfl) (kindAt hsc (by kernel_rfl)) (by kernel_rfl))) (sCons sRetNone sNil)) sNil) (sCons (sAsg (sBin (sBin (sLoc O 32 (by kernel_rfl) (kindAt hsc (by kernel_rfl)) (by kernel_rfl)) (sLoc O 33 (by kernel_rfl) (kindAt hsc (by kernel_rfl)) (by kernel_rfl)) oAdd) sInt oShr) (tLoc O 34 (by kernel_rfl) (kindAt hsc (by kernel_rfl)) (by decide))) (sCons (sAsg (sBin (sBin (sLoc O 34 (by kernel_rfl) (kindAt hsc (by kernel_rfl)) (by kernel_rfl)) (sLoc O 32 (by kernel_rfl) (kindAt hsc (by kernel_rfl)) (by kernel_rfl)) oSub) (sFree O 5 (by kernel_rfl) (kindAt hsc (by kernel_rfl)) (by kernel_rfl) (by kernel_rfl)) oMul) (tLoc O 35 (by kernel_rfl) (kindAt hsc (by kernel_rfl)) (by decide))) (sCons (sAsg (sBin (sLoc O 31 (by kernel_rfl) (kindAt hsc (by kernel_rfl)) (by kernel_rfl)) (sLoc O 35 (by kernel_rfl) (kindAt hsc (by kernel_rfl)) (by kernel_rfl)) oShr) (tLoc O 36 (by kernel_rfl) (kindAt hsc (by kernel_rfl)) (by decide))) (sCons (sAsg (sBin (sLoc O 31 (by kernel_rfl) (kindAt hsc (by kernel_rfl)) (by kernel_rfl)) (sBin (sLoc O 36 (by kernel_rfl) (kindAt hsc (by kernel_rfl)) (by kernel_rfl)) (sLoc O 35 (by kernel_rfl) (kindAt hsc (by kernel_rfl)) (by kernel_rfl)) oShl) oXor) (tLoc O 37 (by kernel_rfl) (kindAt hsc (by kernel_rfl)) (by decide))) (sCons (sExpr (sCallV O h3 (sFree O 38 (by kernel_rfl) (kindAt hsc (by kernel_rfl)) (by kernel_rfl) (by kernel_rfl)) (sArgs (sLoc O 37 (by kernel_rfl) (kindAt hsc (by kernel_rfl)) (by kernel_rfl)) (sArgs (sLoc O 32 (by kernel_rfl) (kindAt hsc (by kernel_rfl)) (by kernel_rfl)) (sArgs (sLoc O 34 (by kernel_rfl) (kindAt hsc (by kernel_rfl)) (by kernel_rfl)) sArgs0))) hG (by omega)) (fkAt hsc (by kernel_rfl))) (sCons (sExpr (sCallV O h3 (sFree O 38 (by kernel_rfl) (kindAt hsc (by kernel_rfl)) (by kernel_rfl) (by kernel_rfl)) (sArgs (sLoc O 36 (by kernel_rfl) (kindAt hsc (by kernel_rfl)) (by kernel_rfl)) (sArgs (sLoc O 34 (by kernel_rfl) (kindAt hsc (by kernel_rfl)) (by kernel_rfl)) (sArgs (sLoc O 33 (by kernel_rfl) (kindAt hsc (by kernel_rfl)) (by kernel_rfl)) sArgs0))) hG (by omega)) (fkAt hsc (by kernel_rfl))) sNil)))))))
        all_goals rfl
    have g_in2 : ∀ (W : Wo) (hK : W.K = main.heap_1_39 W.w.params) (h1 : ∀ cs o, W.fs 0 cs o ↔ tabP (N1 (main.heap_1_39 W.w.params)) cs o) (h2 : ∀ cs o, W.fs 1 cs o ↔ codP (N1 (main.heap_1_39 W.w.params)) cs o) (h3 : ∀ cs o, W.fs 2 cs o ↔ funP (N1 (main.heap_1_39 W.w.params)) cs o) (h4 : ∀ cs o, W.fs 3 cs o ↔ tabP (N2 (main.heap_1_39 W.w.params)) cs o) (h5 : ∀ cs o, W.fs 4 cs o ↔ codP (N2 (main.heap_1_39 W.w.params)) cs o) (h6 : ∀ cs o, W.fs 5 cs o ↔ funP (N2 (main.heap_1_39 W.w.params)) cs o), ∀ m, SV W m 5 (G_in2 m) := by
      intro W hK h1 h2 h3 h4 h5 h6 m
      clear h_law_name h_law_sign h_law_lies h_wsinit h_longest_run_of_spaces h_indent_level h_not_equal_witness h_Whitespace h_law_pieces pat163 pat168 h_hdinit h_convert_string_type h_items h_add_header h_get_all h_Headers h_law_first h_law_second numG g_in1
      induction m with
      | zero => exact fun _ _ _ _ _ _ _ _ _ _ _ _ _ _ _ e => nomatch e
      | succ m hG =>
        refine' SV_def (N := N2 (main.heap_1_39 W.w.params)) (idC := 4) h6 h5 ?hbind_130 ?hck_130 ?hcc_130 ?hcks_130 ?hfk_130 ?hps_130 ?hbody_130 ?hco_130 ?hgen_130 ?hk_130
        case hbind_130 => intro xs h cl doc pm cdv ct; obtain ⟨x0, x1, rfl⟩ := len2 h; rfl
        case hck_130 => intro _; rfl
        case hcc_130 => intro _ _; rfl
        case hcks_130 => decide
        case hfk_130 => exact (by decide : ([39, 38, 5] : List Nat).Nodup ∧ ∀ k ∈ ([39, 38, 5] : List Nat), k < NN ∧ k ∉ ([] : List Nat))
        case hps_130 =>
          intro p hp
          rcases List.mem_cons.mp hp with rfl | hp
          · exact ⟨by decide, by kernel_rfl⟩
          rcases List.mem_cons.mp hp with rfl | hp
          · exact ⟨by decide, by kernel_rfl⟩
          cases hp
          
          
        case hbody_130 =>
          intro cx O hsc
          exact (sCons (sIf (sCmpT (sBin (sLoc O 32 (by kernel_rfl) (kindAt hsc (by kernel_rfl)) (by kernel_rfl)) sInt oAdd) (sLoc O 33 (by kernel_rfl) (kindAt hsc (by kernel_rfl)) (by kernel_rfl)) (oEq O)) (sCons (sRet (sSub (sFree O 39 (by kernel_rfl) (kindAt hsc (by kernel_rfl)) (by kernel_rfl) (by kernel_rfl)) (sLoc O 32 (by kernel_rfl) (kindAt hsc (by kernel_rfl)) (by kernel_rfl)))) sNil) sNil) (sCons (sAsg (sBin (sBin (sLoc O 32 (by kernel_rfl) (kindAt hsc (by kernel_rfl)) (by kernel_rfl)) (sLoc O 33 (by kernel_rfl) (kindAt hsc (by kernel_rfl)) (by kernel_rfl)) oAdd) sInt oShr) (tLoc O 34 (by kernel_rfl) (kindAt hsc (by kernel_rfl)) (by decide))) (sCons (sAsg (sBin (sBin (sLoc O 34 (by kernel_rfl) (kindAt hsc (by kernel_rfl)) (by kernel_rfl)) (sLoc O 32 (by kernel_rfl) (kindAt hsc (by kernel_rfl)) (by kernel_rfl)) oSub) (sFree O 5 (by kernel_rfl) (kindAt hsc (by kernel_rfl)) (by kernel_rfl) (by kernel_rfl)) oMul) (tLoc O 35 (by kernel_rfl) (kindAt hsc (by kernel_rfl)) (by decide))) (sCons (sRet (sBin (sBin (sCallV O h6 (sFree O 38 (by kernel_rfl) (kindAt hsc (by kernel_rfl)) (by kernel_rfl) (by kernel_rfl)) (sArgs (sLoc O 34 (by kernel_rfl) (kindAt hsc (by kernel_rfl)) (by kernel_rfl)) (sArgs (sLoc O 33 (by kernel_rfl) (kindAt hsc (by kernel_rfl)) (by kernel_rfl)) sArgs0)) hG (by omega)) (sLoc O 35 (by kernel_rfl) (kindAt hsc (by kernel_rfl)) (by kernel_rfl)) oShl) (sCallV O h6 (sFree O 38 (by kernel_rfl) (kindAt hsc (by kernel_rfl)) (by kernel_rfl) (by kernel_rfl)) (sArgs (sLoc O 32 (by kernel_rfl) (kindAt hsc (by kernel_rfl)) (by kernel_rfl)) (sArgs (sLoc O 34 (by kernel_rfl) (kindAt hsc (by kernel_rfl)) (by kernel_rfl)) sArgs0)) hG (by omega)) oAdd)) sNil))))
        all_goals rfl
    have codeHd1 : ∀ (W : Wo) (hK : W.K = main.heap_1_39 W.w.params) (h : Heap) (X : W.K.In h), CodeHd h 124 120 := by
      intro W hK h X
      clear h_law_name h_law_sign h_law_lies h_wsinit h_longest_run_of_spaces h_indent_level h_not_equal_witness h_Whitespace h_law_pieces pat163 pat168 h_hdinit h_convert_string_type h_items h_add_header h_get_all h_Headers h_law_first h_law_second numG g_in1 g_in2
      refine ⟨?o_131, ?vs_131, ?file_131, ?tf_131, ?flags_131, ?tg_131, ?inF_131, ?text_131, ?tt_131, ?a_131, ?b_131, ?c_131, ?d_131, ?e_131, ?f_131, ?g_131, ?h_131, ?i_131, by decide⟩
      case a_131 => exact X _ _ (by rw [hK]; rfl)
      case b_131 => rfl
      case c_131 => rfl
      case d_131 => rfl
      case e_131 => rfl
      case f_131 => rfl
      case g_131 => rfl
      case h_131 => rfl
      case i_131 => rfl
    have codeHd2 : ∀ (W : Wo) (hK : W.K = main.heap_1_39 W.w.params) (h : Heap) (X : W.K.In h), CodeHd h 131 127 := by
      intro W hK h X
      clear h_law_name h_law_sign h_law_lies h_wsinit h_longest_run_of_spaces h_indent_level h_not_equal_witness h_Whitespace h_law_pieces pat163 pat168 h_hdinit h_convert_string_type h_items h_add_header h_get_all h_Headers h_law_first h_law_second numG g_in1 g_in2 codeHd1
      refine ⟨?o_132, ?vs_132, ?file_132, ?tf_132, ?flags_132, ?tg_132, ?inF_132, ?text_132, ?tt_132, ?a_132, ?b_132, ?c_132, ?d_132, ?e_132, ?f_132, ?g_132, ?h_132, ?i_132, by decide⟩
      case a_132 => exact X _ _ (by rw [hK]; rfl)
      case b_132 => rfl
      case c_132 => rfl
      case d_132 => rfl
      case e_132 => rfl
      case f_132 => rfl
      case g_132 => rfl
      case h_132 => rfl
      case i_132 => rfl
    have h_int2digits : ∀ (W : Wo) (hK : W.K = main.heap_1_39 W.w.params) (h1 : ∀ cs o, W.fs 0 cs o ↔ tabP (N1 (main.heap_1_39 W.w.params)) cs o) (h2 : ∀ cs o, W.fs 1 cs o ↔ codP (N1 (main.heap_1_39 W.w.params)) cs o) (h3 : ∀ cs o, W.fs 2 cs o ↔ funP (N1 (main.heap_1_39 W.w.params)) cs o) (h4 : ∀ cs o, W.fs 3 cs o ↔ tabP (N2 (main.heap_1_39 W.w.params)) cs o) (h5 : ∀ cs o, W.fs 4 cs o ↔ codP (N2 (main.heap_1_39 W.w.params)) cs o) (h6 : ∀ cs o, W.fs 5 cs o ↔ funP (N2 (main.heap_1_39 W.w.params)) cs o), SC W 21 (.ref 125) [] F_int2digits := by
      intro W hK h1 h2 h3 h4 h5 h6
      clear h_law_name h_law_sign h_law_lies h_wsinit h_longest_run_of_spaces h_indent_level h_not_equal_witness h_Whitespace h_law_pieces pat163 pat168 h_hdinit h_convert_string_type h_items h_add_header h_get_all h_Headers h_law_first h_law_second numG g_in2 codeHd2
      have kf_gb_len : ∀ (P : Params), nsIn (main.heap_1_39 P) mainGlobals "len" = some none := by
        intro P
        kernel_rfl
      have hG := g_in1 W hK h1 h2 h3 h4 h5 h6 12
      refine' SC_cell [] ?ho_133 ?hcd_133 ?hbind_133 ?hck_133 ?hcc_133 ?hcks_133 ?hps_133 ?hbody_133 ?hco_133 ?hgen_133 ?hk_133
      case ho_133 => rw [hK]; rfl
      case hcd_133 => rw [hK]; kernel_rfl
      case hbind_133 => intro s xs X h; obtain ⟨x0, x1, rfl⟩ := len2 h; exact BindsTo.of_eq rfl
      case hck_133 => intro _; rfl
      case hcc_133 => intro _ _; rfl
      case hcks_133 => decide
      case hps_133 => decide +kernel
      case hbody_133 =>
        intro cx cells O he
        have hsc : cx.env.scope = _ := congrArg Env.scope he
        exact (sCons (sAsg (sBin (sLst (sArgs sInt sArgs0)) (sBin (sBin (sBin (sMethB chkZ O (sLoc O 17 (by kernel_rfl) (kindAt hsc (by kernel_rfl)) (by kernel_rfl)) sArgs0 chkZ_is (SF1 (cBits 0)) (Nat.zero_le _) F.plainAttrs_int F.slot_int_bit_length F.type_int_bit_length (fun _ => rfl)) (sCel O 5 (by kernel_rfl) (kindAt hsc (by kernel_rfl)) (by kernel_rfl)) oAdd) sInt oSub) (sCel O 5 (by kernel_rfl) (kindAt hsc (by kernel_rfl)) (by kernel_rfl)) oDiv) oMul) (tCel O 30 (by kernel_rfl) (kindAt hsc (by kernel_rfl)))) (sCons (sDef O (N := N1 (main.heap_1_39 W.w.params)) (c₀ := 124) (t := 0) (idT := 0) (idC := 1) (idF := 2) (x := 38) (by rw [he]; rfl) (fun h X => codeHd1 W hK h X) h1 h2 h3 (by rw [he]; kernel_rfl) rfl rfl rfl rfl rfl (kindAt hsc (by kernel_rfl))) (sCons (sIf (sTru (sLoc O 17 (by kernel_rfl) (kindAt hsc (by kernel_rfl)) (by kernel_rfl))) (sCons (sExpr (sCallV O h3 (sCel O 38 (by kernel_rfl) (kindAt hsc (by kernel_rfl)) (by kernel_rfl)) (sArgs (sLoc O 17 (by kernel_rfl) (kindAt hsc (by kernel_rfl)) (by kernel_rfl)) (sArgs sInt (sArgs (sCall O (sBui O (hK ▸ kf_gb_len _) (by kernel_rfl) (by decide) (kindAt hsc (by kernel_rfl)) (by kernel_rfl)) (sArgs (sCel O 30 (by kernel_rfl) (kindAt hsc (by kernel_rfl)) (by kernel_rfl)) sArgs0) (SF1 (cLen 0)) Kp.builtin (Nat.zero_le _)) sArgs0))) hG (by omega)) (fkAt hsc (by kernel_rfl))) sNil) sNil) (sCons (sRet (sCel O 30 (by kernel_rfl) (kindAt hsc (by kernel_rfl)) (by kernel_rfl))) sNil))))
      all_goals first | rfl | decide
    have h_digits2int : ∀ (W : Wo) (hK : W.K = main.heap_1_39 W.w.params) (h1 : ∀ cs o, W.fs 0 cs o ↔ tabP (N1 (main.heap_1_39 W.w.params)) cs o) (h2 : ∀ cs o, W.fs 1 cs o ↔ codP (N1 (main.heap_1_39 W.w.params)) cs o) (h3 : ∀ cs o, W.fs 2 cs o ↔ funP (N1 (main.heap_1_39 W.w.params)) cs o) (h4 : ∀ cs o, W.fs 3 cs o ↔ tabP (N2 (main.heap_1_39 W.w.params)) cs o) (h5 : ∀ cs o, W.fs 4 cs o ↔ codP (N2 (main.heap_1_39 W.w.params)) cs o) (h6 : ∀ cs o, W.fs 5 cs o ↔ funP (N2 (main.heap_1_39 W.w.params)) cs o), SC W 21 (.ref 132) [] F_digits2int := by
      intro W hK h1 h2 h3 h4 h5 h6
      clear h_law_name h_law_sign h_law_lies h_wsinit h_longest_run_of_spaces h_indent_level h_not_equal_witness h_Whitespace h_law_pieces pat163 pat168 h_hdinit h_convert_string_type h_items h_add_header h_get_all h_Headers h_law_first h_law_second numG g_in1 codeHd1 h_int2digits
      have kf_gb_len : ∀ (P : Params), nsIn (main.heap_1_39 P) mainGlobals "len" = some none := by
        intro P
        kernel_rfl
      have hG := g_in2 W hK h1 h2 h3 h4 h5 h6 12
      refine' SC_cell [] ?ho_134 ?hcd_134 ?hbind_134 ?hck_134 ?hcc_134 ?hcks_134 ?hps_134 ?hbody_134 ?hco_134 ?hgen_134 ?hk_134
      case ho_134 => rw [hK]; rfl
      case hcd_134 => rw [hK]; kernel_rfl
      case hbind_134 => intro s xs X h; obtain ⟨x0, x1, rfl⟩ := len2 h; exact BindsTo.of_eq rfl
      case hck_134 => intro _; rfl
      case hcc_134 => intro _ _; rfl
      case hcks_134 => decide
      case hps_134 => decide +kernel
      case hbody_134 =>
        intro cx cells O he
        have hsc : cx.env.scope = _ := congrArg Env.scope he
        exact (sCons (sDef O (N := N2 (main.heap_1_39 W.w.params)) (c₀ := 131) (t := 1) (idT := 3) (idC := 4) (idF := 5) (x := 38) (by rw [he]; rfl) (fun h X => codeHd2 W hK h X) h4 h5 h6 (by rw [he]; kernel_rfl) rfl rfl rfl rfl rfl (kindAt hsc (by kernel_rfl))) (sCons (sRet (sIfExp (sTru (sCel O 39 (by kernel_rfl) (kindAt hsc (by kernel_rfl)) (by kernel_rfl))) (sCallV O h6 (sCel O 38 (by kernel_rfl) (kindAt hsc (by kernel_rfl)) (by kernel_rfl)) (sArgs sInt (sArgs (sCall O (sBui O (hK ▸ kf_gb_len _) (by kernel_rfl) (by decide) (kindAt hsc (by kernel_rfl)) (by kernel_rfl)) (sArgs (sCel O 39 (by kernel_rfl) (kindAt hsc (by kernel_rfl)) (by kernel_rfl)) sArgs0) (SF1 (cLen 0)) Kp.builtin (Nat.zero_le _)) sArgs0)) hG (by omega)) sInt)) sNil))
      all_goals first | rfl | decide
    have h_div2n1n : ∀ (W : Wo) (hK : W.K = main.heap_1_39 W.w.params), SC W 3 (.ref 111) [] F_div2n1n := by
      intro W hK
      clear h_law_name h_law_sign h_law_lies h_wsinit h_longest_run_of_spaces h_indent_level h_not_equal_witness h_Whitespace h_law_pieces pat163 pat168 h_hdinit h_convert_string_type h_items h_add_header h_get_all h_Headers h_law_first h_law_second g_in1 g_in2 codeHd1 codeHd2 h_int2digits h_digits2int
      have kf_gb_divmod : ∀ (P : Params), nsIn (main.heap_1_39 P) mainGlobals "divmod" = some none := by
        intro P
        kernel_rfl
      refine' SC_def [] ?ho_135 ?hcd_135 ?hbind_135 ?hps_135 ?hpn_135 ?hloc_135 ?hbody_135 ?hco_135 ?hgen_135 ?hk_135 ?hcell_135
      case ho_135 => rw [hK]; rfl
      case hcd_135 => rw [hK]; kernel_rfl
      case hbind_135 => intro s xs X h; obtain ⟨x0, x1, x2, rfl⟩ := len3 h; exact BindsTo.of_eq rfl
      case hps_135 => decide
      case hpn_135 => decide
      case hloc_135 => decide +kernel
      case hbody_135 =>
        intro cx O he
        have hsc : cx.env.scope = _ := congrArg Env.scope he
        exact (sCons (sIf (sCmpT (sBin (sMethB chkZ O (sLoc O 17 (by kernel_rfl) (kindAt hsc (by kernel_rfl)) (by kernel_rfl)) sArgs0 chkZ_is (SF1 (cBits 0)) (Nat.zero_le _) F.plainAttrs_int F.slot_int_bit_length F.type_int_bit_length (fun _ => rfl)) (sLoc O 5 (by kernel_rfl) (kindAt hsc (by kernel_rfl)) (by kernel_rfl)) oSub) (sNumG (numG O hK (kindAt hsc (by kernel_rfl)))) oLe) (sCons (sRet (sCall O (sBui O (hK ▸ kf_gb_divmod _) (by kernel_rfl) (by decide) (kindAt hsc (by kernel_rfl)) (by kernel_rfl)) (sArgs (sLoc O 17 (by kernel_rfl) (kindAt hsc (by kernel_rfl)) (by kernel_rfl)) (sArgs (sLoc O 4 (by kernel_rfl) (kindAt hsc (by kernel_rfl)) (by kernel_rfl)) sArgs0)) (SF2 (cDivmod 0)) Kp.builtin (Nat.zero_le _))) sNil) sNil) (fun _ => TAt.bad))
      all_goals first | rfl | decide
    have h_divmod_pos : ∀ (W : Wo) (hK : W.K = main.heap_1_39 W.w.params) (h1 : ∀ cs o, W.fs 0 cs o ↔ tabP (N1 (main.heap_1_39 W.w.params)) cs o) (h2 : ∀ cs o, W.fs 1 cs o ↔ codP (N1 (main.heap_1_39 W.w.params)) cs o) (h3 : ∀ cs o, W.fs 2 cs o ↔ funP (N1 (main.heap_1_39 W.w.params)) cs o) (h4 : ∀ cs o, W.fs 3 cs o ↔ tabP (N2 (main.heap_1_39 W.w.params)) cs o) (h5 : ∀ cs o, W.fs 4 cs o ↔ codP (N2 (main.heap_1_39 W.w.params)) cs o) (h6 : ∀ cs o, W.fs 5 cs o ↔ funP (N2 (main.heap_1_39 W.w.params)) cs o), SC W 25 (.ref 139) [] F_divmod_pos := by
      intro W hK h1 h2 h3 h4 h5 h6
      clear h_law_name h_law_sign h_law_lies h_wsinit h_longest_run_of_spaces h_indent_level h_not_equal_witness h_Whitespace h_law_pieces pat163 pat168 h_hdinit h_convert_string_type h_items h_add_header h_get_all h_Headers h_law_first h_law_second numG g_in1 g_in2 codeHd1 codeHd2
      have kf_kp111 : ∀ (P : Params), keepIn (main.heap_1_39 P) (.ref 111) = true := by
        intro P
        kernel_rfl
      have kf_kp125 : ∀ (P : Params), keepIn (main.heap_1_39 P) (.ref 125) = true := by
        intro P
        kernel_rfl
      have kf_kp132 : ∀ (P : Params), keepIn (main.heap_1_39 P) (.ref 132) = true := by
        intro P
        kernel_rfl
      have kf_gl111 : ∀ (P : Params), nsIn (main.heap_1_39 P) mainGlobals "_div2n1n" = some (some (.ref 111)) := by
        intro P
        kernel_rfl
      have kf_gl125 : ∀ (P : Params), nsIn (main.heap_1_39 P) mainGlobals "_int2digits" = some (some (.ref 125)) := by
        intro P
        kernel_rfl
      have kf_gl132 : ∀ (P : Params), nsIn (main.heap_1_39 P) mainGlobals "_digits2int" = some (some (.ref 132)) := by
        intro P
        kernel_rfl
      have kf_gb_reversed : ∀ (P : Params), nsIn (main.heap_1_39 P) mainGlobals "reversed" = some none := by
        intro P
        kernel_rfl
      have h_div2n1n := (h_div2n1n W hK).sf
      have h_int2digits := (h_int2digits W hK h1 h2 h3 h4 h5 h6).sf
      have h_digits2int := (h_digits2int W hK h1 h2 h3 h4 h5 h6).sf
      refine' SC_def [] ?ho_136 ?hcd_136 ?hbind_136 ?hps_136 ?hpn_136 ?hloc_136 ?hbody_136 ?hco_136 ?hgen_136 ?hk_136 ?hcell_136
      case ho_136 => rw [hK]; rfl
      case hcd_136 => rw [hK]; kernel_rfl
      case hbind_136 => intro s xs X h; obtain ⟨x0, x1, rfl⟩ := len2 h; exact BindsTo.of_eq rfl
      case hps_136 => decide
      case hpn_136 => decide
      case hloc_136 => decide +kernel
      case hbody_136 =>
        intro cx O he
        have hsc : cx.env.scope = _ := congrArg Env.scope he
        exact (sCons (sAsg (sMethB chkZ O (sLoc O 4 (by kernel_rfl) (kindAt hsc (by kernel_rfl)) (by kernel_rfl)) sArgs0 chkZ_is (SF1 (cBits 0)) (Nat.zero_le _) F.plainAttrs_int F.slot_int_bit_length F.type_int_bit_length (fun _ => rfl)) (tLoc O 5 (by kernel_rfl) (kindAt hsc (by kernel_rfl)) (by decide))) (sCons (sAsg (sCall O (sGlob O (v := .ref 125) (hK ▸ kf_gl125 _) (kindAt hsc (by kernel_rfl)) (by kernel_rfl)) (sArgs (sLoc O 17 (by kernel_rfl) (kindAt hsc (by kernel_rfl)) (by kernel_rfl)) (sArgs (sLoc O 5 (by kernel_rfl) (kindAt hsc (by kernel_rfl)) (by kernel_rfl)) sArgs0)) h_int2digits (Kp.of (hK ▸ kf_kp125 _)) (by decide)) (tLoc O 30 (by kernel_rfl) (kindAt hsc (by kernel_rfl)) (by decide))) (sCons (sAsg sInt (tLoc O 25 (by kernel_rfl) (kindAt hsc (by kernel_rfl)) (by decide))) (sCons (sAsg (sLst sArgs0) (tLoc O 40 (by kernel_rfl) (kindAt hsc (by kernel_rfl)) (by decide))) (sCons (sFor O 400 (sRevd O (sBui O (hK ▸ kf_gb_reversed _) (by kernel_rfl) (by decide) (kindAt hsc (by kernel_rfl)) (by kernel_rfl)) (sArgs (sLoc O 30 (by kernel_rfl) (kindAt hsc (by kernel_rfl)) (by kernel_rfl)) sArgs0)) (fun pv => have O := O.wp pv; have hsc := hsc; (tLoc O 41 (by kernel_rfl) (kindAt hsc (by kernel_rfl)) (by decide))) (fun pv => have O := O.wp pv; have hsc := hsc; (sCons (sAsg (sCall O (sGlob O (v := .ref 111) (hK ▸ kf_gl111 _) (kindAt hsc (by kernel_rfl)) (by kernel_rfl)) (sArgs (sBin (sBin (sLoc O 25 (by kernel_rfl) (kindAt hsc (by kernel_rfl)) (by kernel_rfl)) (sLoc O 5 (by kernel_rfl) (kindAt hsc (by kernel_rfl)) (by kernel_rfl)) oShl) (sLoc O 41 (by kernel_rfl) (kindAt hsc (by kernel_rfl)) (by kernel_rfl)) oAdd) (sArgs (sLoc O 4 (by kernel_rfl) (kindAt hsc (by kernel_rfl)) (by kernel_rfl)) (sArgs (sLoc O 5 (by kernel_rfl) (kindAt hsc (by kernel_rfl)) (by kernel_rfl)) sArgs0))) h_div2n1n (Kp.of (hK ▸ kf_kp111 _)) (by decide)) (tTup O (.cons (tLoc O 42 (by kernel_rfl) (kindAt hsc (by kernel_rfl)) (by decide)) (fun _ => rfl) (.cons (tLoc O 25 (by kernel_rfl) (kindAt hsc (by kernel_rfl)) (by decide)) (fun _ => rfl) .nil)))) (sCons (sExpr (sMethB chkL O (sLoc O 40 (by kernel_rfl) (kindAt hsc (by kernel_rfl)) (by kernel_rfl)) (sArgs (sLoc O 42 (by kernel_rfl) (kindAt hsc (by kernel_rfl)) (by kernel_rfl)) sArgs0) chkL_is SF_app (Nat.zero_le _) F.plainAttrs_list F.slot_list_append F.type_list_append (fun _ => rfl)) (fkAt hsc (by kernel_rfl))) sNil)))) (sCons (sExpr (sMethB chkL O (sLoc O 40 (by kernel_rfl) (kindAt hsc (by kernel_rfl)) (by kernel_rfl)) sArgs0 chkL_is (SF1 (cRev 0)) (Nat.zero_le _) F.plainAttrs_list F.slot_list_reverse F.type_list_reverse (fun _ => rfl)) (fkAt hsc (by kernel_rfl))) (sCons (sAsg (sCall O (sGlob O (v := .ref 132) (hK ▸ kf_gl132 _) (kindAt hsc (by kernel_rfl)) (by kernel_rfl)) (sArgs (sLoc O 40 (by kernel_rfl) (kindAt hsc (by kernel_rfl)) (by kernel_rfl)) (sArgs (sLoc O 5 (by kernel_rfl) (kindAt hsc (by kernel_rfl)) (by kernel_rfl)) sArgs0)) h_digits2int (Kp.of (hK ▸ kf_kp132 _)) (by decide)) (tLoc O 29 (by kernel_rfl) (kindAt hsc (by kernel_rfl)) (by decide))) (sCons (sRet (sTup (sArgs (sLoc O 29 (by kernel_rfl) (kindAt hsc (by kernel_rfl)) (by kernel_rfl)) (sArgs (sLoc O 25 (by kernel_rfl) (kindAt hsc (by kernel_rfl)) (by kernel_rfl)) sArgs0)))) sNil))))))))
      all_goals first | rfl | decide
    have h_idm : ∀ (W : Wo) (hK : W.K = main.heap_1_39 W.w.params) (h1 : ∀ cs o, W.fs 0 cs o ↔ tabP (N1 (main.heap_1_39 W.w.params)) cs o) (h2 : ∀ cs o, W.fs 1 cs o ↔ codP (N1 (main.heap_1_39 W.w.params)) cs o) (h3 : ∀ cs o, W.fs 2 cs o ↔ funP (N1 (main.heap_1_39 W.w.params)) cs o) (h4 : ∀ cs o, W.fs 3 cs o ↔ tabP (N2 (main.heap_1_39 W.w.params)) cs o) (h5 : ∀ cs o, W.fs 4 cs o ↔ codP (N2 (main.heap_1_39 W.w.params)) cs o) (h6 : ∀ cs o, W.fs 5 cs o ↔ funP (N2 (main.heap_1_39 W.w.params)) cs o) (m : Nat) (hm : 25 ≤ m) (F_int_divmod : List AV → Sto → Option (AV × Sto)) (h_int_divmod : SF W m (.ref 146) F_int_divmod), SC W (m + 1) (.ref 146) [] (F_idm F_int_divmod) := by
      intro W hK h1 h2 h3 h4 h5 h6 m hm F_int_divmod h_int_divmod
      clear h_law_name h_law_sign h_law_lies h_wsinit h_longest_run_of_spaces h_indent_level h_not_equal_witness h_Whitespace h_law_pieces pat163 pat168 h_hdinit h_convert_string_type h_items h_add_header h_get_all h_Headers h_law_first h_law_second numG g_in1 g_in2 codeHd1 codeHd2 h_int2digits h_digits2int h_div2n1n
      have kf_kp139 : ∀ (P : Params), keepIn (main.heap_1_39 P) (.ref 139) = true := by
        intro P
        kernel_rfl
      have kf_kp146 : ∀ (P : Params), keepIn (main.heap_1_39 P) (.ref 146) = true := by
        intro P
        kernel_rfl
      have kf_gl139 : ∀ (P : Params), nsIn (main.heap_1_39 P) mainGlobals "_divmod_pos" = some (some (.ref 139)) := by
        intro P
        kernel_rfl
      have kf_gl146 : ∀ (P : Params), nsIn (main.heap_1_39 P) mainGlobals "int_divmod" = some (some (.ref 146)) := by
        intro P
        kernel_rfl
      have h_divmod_pos := ((h_divmod_pos W hK h1 h2 h3 h4 h5 h6).sf).le hm
      refine' SC_def [] ?ho_137 ?hcd_137 ?hbind_137 ?hps_137 ?hpn_137 ?hloc_137 ?hbody_137 ?hco_137 ?hgen_137 ?hk_137 ?hcell_137
      case ho_137 => rw [hK]; rfl
      case hcd_137 => rw [hK]; kernel_rfl
      case hbind_137 => intro s xs X h; obtain ⟨x0, x1, rfl⟩ := len2 h; exact BindsTo.of_eq rfl
      case hps_137 => decide
      case hpn_137 => decide
      case hloc_137 => decide +kernel
      case hbody_137 =>
        intro cx O he
        have hsc : cx.env.scope = _ := congrArg Env.scope he
        exact (sCons (sIf (sCmpT (sLoc O 4 (by kernel_rfl) (kindAt hsc (by kernel_rfl)) (by kernel_rfl)) sInt (oEq O)) (fun _ => TAt.bad) (sCons (sIf (sCmpT (sLoc O 4 (by kernel_rfl) (kindAt hsc (by kernel_rfl)) (by kernel_rfl)) sInt oLt) (sCons (sAsg (sCall O (sGlob O (v := .ref 146) (hK ▸ kf_gl146 _) (kindAt hsc (by kernel_rfl)) (by kernel_rfl)) (sArgs (sUn (sLoc O 17 (by kernel_rfl) (kindAt hsc (by kernel_rfl)) (by kernel_rfl)) oNeg) (sArgs (sUn (sLoc O 4 (by kernel_rfl) (kindAt hsc (by kernel_rfl)) (by kernel_rfl)) oNeg) sArgs0)) h_int_divmod (Kp.of (hK ▸ kf_kp146 _)) (Nat.le_refl _)) (tTup O (.cons (tLoc O 29 (by kernel_rfl) (kindAt hsc (by kernel_rfl)) (by decide)) (fun _ => rfl) (.cons (tLoc O 25 (by kernel_rfl) (kindAt hsc (by kernel_rfl)) (by decide)) (fun _ => rfl) .nil)))) (sCons (sRet (sTup (sArgs (sLoc O 29 (by kernel_rfl) (kindAt hsc (by kernel_rfl)) (by kernel_rfl)) (sArgs (sUn (sLoc O 25 (by kernel_rfl) (kindAt hsc (by kernel_rfl)) (by kernel_rfl)) oNeg) sArgs0)))) sNil)) (sCons (sIf (sCmpT (sLoc O 17 (by kernel_rfl) (kindAt hsc (by kernel_rfl)) (by kernel_rfl)) sInt oLt) (sCons (sAsg (sCall O (sGlob O (v := .ref 146) (hK ▸ kf_gl146 _) (kindAt hsc (by kernel_rfl)) (by kernel_rfl)) (sArgs (sUn (sLoc O 17 (by kernel_rfl) (kindAt hsc (by kernel_rfl)) (by kernel_rfl)) oInv) (sArgs (sLoc O 4 (by kernel_rfl) (kindAt hsc (by kernel_rfl)) (by kernel_rfl)) sArgs0)) h_int_divmod (Kp.of (hK ▸ kf_kp146 _)) (Nat.le_refl _)) (tTup O (.cons (tLoc O 29 (by kernel_rfl) (kindAt hsc (by kernel_rfl)) (by decide)) (fun _ => rfl) (.cons (tLoc O 25 (by kernel_rfl) (kindAt hsc (by kernel_rfl)) (by decide)) (fun _ => rfl) .nil)))) (sCons (sRet (sTup (sArgs (sUn (sLoc O 29 (by kernel_rfl) (kindAt hsc (by kernel_rfl)) (by kernel_rfl)) oInv) (sArgs (sBin (sLoc O 4 (by kernel_rfl) (kindAt hsc (by kernel_rfl)) (by kernel_rfl)) (sUn (sLoc O 25 (by kernel_rfl) (kindAt hsc (by kernel_rfl)) (by kernel_rfl)) oInv) oAdd) sArgs0)))) sNil)) (sCons (sRet (sCall O (sGlob O (v := .ref 139) (hK ▸ kf_gl139 _) (kindAt hsc (by kernel_rfl)) (by kernel_rfl)) (sArgs (sLoc O 17 (by kernel_rfl) (kindAt hsc (by kernel_rfl)) (by kernel_rfl)) (sArgs (sLoc O 4 (by kernel_rfl) (kindAt hsc (by kernel_rfl)) (by kernel_rfl)) sArgs0)) h_divmod_pos (Kp.of (hK ▸ kf_kp139 _)) (Nat.le_refl _))) sNil)) sNil)) sNil)) sNil)
      all_goals first | rfl | decide
    have h_idm3 : ∀ (W : Wo) (hK : W.K = main.heap_1_39 W.w.params) (h1 : ∀ cs o, W.fs 0 cs o ↔ tabP (N1 (main.heap_1_39 W.w.params)) cs o) (h2 : ∀ cs o, W.fs 1 cs o ↔ codP (N1 (main.heap_1_39 W.w.params)) cs o) (h3 : ∀ cs o, W.fs 2 cs o ↔ funP (N1 (main.heap_1_39 W.w.params)) cs o) (h4 : ∀ cs o, W.fs 3 cs o ↔ tabP (N2 (main.heap_1_39 W.w.params)) cs o) (h5 : ∀ cs o, W.fs 4 cs o ↔ codP (N2 (main.heap_1_39 W.w.params)) cs o) (h6 : ∀ cs o, W.fs 5 cs o ↔ funP (N2 (main.heap_1_39 W.w.params)) cs o), SF W 28 (.ref 146) F_idm3 := by
      intro W hK h1 h2 h3 h4 h5 h6
      clear h_law_name h_law_sign h_law_lies h_wsinit h_longest_run_of_spaces h_indent_level h_not_equal_witness h_Whitespace h_law_pieces pat163 pat168 h_hdinit h_convert_string_type h_items h_add_header h_get_all h_Headers h_law_first h_law_second numG g_in1 g_in2 codeHd1 codeHd2 h_int2digits h_digits2int h_div2n1n h_divmod_pos
      exact (h_idm W hK h1 h2 h3 h4 h5 h6 27 (by decide) _ ((h_idm W hK h1 h2 h3 h4 h5 h6 26 (by decide) _ ((h_idm W hK h1 h2 h3 h4 h5 h6 25 (by decide) _ (fun _ _ _ _ _ _ _ _ _ _ _ e => by simp [apF] at e)).sf)).sf)).sf
    have hw_law_cells : ∀ (W : Wo) (hK : W.K = main.heap_1_39 W.w.params) (la : Nat) (zs : List Int), SCx W (PrS la zs) 2 (.ref 308) (Fw_law_cells la zs) := by
      intro W hK la zs
      clear h_law_name h_law_sign h_law_lies h_wsinit h_longest_run_of_spaces h_indent_level h_not_equal_witness h_Whitespace h_law_pieces pat163 pat168 h_hdinit h_convert_string_type h_items h_add_header h_get_all h_Headers h_law_first h_law_second numG g_in1 g_in2 codeHd1 codeHd2 h_int2digits h_digits2int h_div2n1n h_divmod_pos h_idm h_idm3
      have kf_gb_len : ∀ (P : Params), nsIn (main.heap_1_39 P) mainGlobals "len" = some none := by
        intro P
        kernel_rfl
      have kf_gb_range : ∀ (P : Params), nsIn (main.heap_1_39 P) mainGlobals "range" = some none := by
        intro P
        kernel_rfl
      refine' SCx_def ?ho_139 ?hcd_139 ?hbind_139 ?hps_139 ?hpn_139 ?hloc_139 ?hbody_139 ?hco_139 ?hgen_139 ?hk_139 ?hcell_139
      case ho_139 => rw [hK]; rfl
      case hcd_139 => rw [hK]; kernel_rfl
      case hbind_139 => intro s xs X h; obtain ⟨x0, rfl⟩ := len1 h; exact BindsTo.of_eq rfl
      case hps_139 => decide
      case hpn_139 => decide
      case hloc_139 => decide +kernel
      case hbody_139 =>
        intro cx O hscr he
        have hsc : cx.env.scope = _ := congrArg Env.scope he
        exact (sCons (sAsg (sLst (sArgs sInt (sArgs sInt (sArgs sInt (sArgs sInt sArgs0))))) (tLoc O 59 (by kernel_rfl) (kindAt hsc (by kernel_rfl)) (by decide))) (sCons (sFor O 400 (sIter O (sCall O (sBui O (hK ▸ kf_gb_range _) (by kernel_rfl) (by decide) (kindAt hsc (by kernel_rfl)) (by kernel_rfl)) (sArgs (sScrLen O hscr (sBui O (hK ▸ kf_gb_len _) (by kernel_rfl) (by decide) (kindAt hsc (by kernel_rfl)) (by kernel_rfl)) (sLoc O 58 (by kernel_rfl) (kindAt hsc (by kernel_rfl)) (by kernel_rfl))) sArgs0) (SF12 (cRange1 0) (cRange2 0)) Kp.type (Nat.zero_le _))) (fun pv => have O := O.wp pv; have hsc := hsc; (tLoc O 50 (by kernel_rfl) (kindAt hsc (by kernel_rfl)) (by decide))) (fun pv => have O := O.wp pv; have hsc := hsc; (sCons (sAugS (sLoc O 59 (by kernel_rfl) (kindAt hsc (by kernel_rfl)) (by kernel_rfl)) (sBin (sLoc O 50 (by kernel_rfl) (kindAt hsc (by kernel_rfl)) (by kernel_rfl)) sInt oMod) (sScrGet hscr (sLoc O 58 (by kernel_rfl) (kindAt hsc (by kernel_rfl)) (by kernel_rfl)) (sLoc O 50 (by kernel_rfl) (kindAt hsc (by kernel_rfl)) (by kernel_rfl))) oIAdd) sNil))) (sCons (sRet (sLoc O 59 (by kernel_rfl) (kindAt hsc (by kernel_rfl)) (by kernel_rfl))) sNil)))
      all_goals first | rfl | decide
    have hw_law_octets : ∀ (W : Wo) (hK : W.K = main.heap_1_39 W.w.params), SC W 3 (.ref 327) [] Fw_law_octets := by
      intro W hK
      clear h_law_name h_law_lies h_wsinit h_longest_run_of_spaces h_indent_level h_not_equal_witness h_Whitespace h_law_pieces pat163 pat168 h_hdinit h_convert_string_type h_items h_add_header h_get_all h_Headers h_law_first h_law_second numG g_in1 g_in2 codeHd1 codeHd2 h_int2digits h_digits2int h_div2n1n h_divmod_pos h_idm h_idm3 hw_law_cells
      have kf_kp320 : ∀ (P : Params), keepIn (main.heap_1_39 P) (.ref 320) = true := by
        intro P
        kernel_rfl
      have kf_gl320 : ∀ (P : Params), nsIn (main.heap_1_39 P) mainGlobals "_law_sign" = some (some (.ref 320)) := by
        intro P
        kernel_rfl
      have h_law_sign := (h_law_sign W hK).sf
      refine' SC_def [] ?ho_140 ?hcd_140 ?hbind_140 ?hps_140 ?hpn_140 ?hloc_140 ?hbody_140 ?hco_140 ?hgen_140 ?hk_140 ?hcell_140
      case ho_140 => rw [hK]; rfl
      case hcd_140 => rw [hK]; kernel_rfl
      case hbind_140 => intro s xs X h; obtain ⟨x0, rfl⟩ := len1 h; exact BindsTo.of_eq rfl
      case hps_140 => decide
      case hpn_140 => decide
      case hloc_140 => decide +kernel
      case hbody_140 =>
        intro cx O he
        have hsc : cx.env.scope = _ := congrArg Env.scope he
        exact (sCons (sAsg (sCall O (sGlob O (v := .ref 320) (hK ▸ kf_gl320 _) (kindAt hsc (by kernel_rfl)) (by kernel_rfl)) (sArgs (sBin (sLoc O 77 (by kernel_rfl) (kindAt hsc (by kernel_rfl)) (by kernel_rfl)) sInt oMod) sArgs0) h_law_sign (Kp.of (hK ▸ kf_kp320 _)) (by decide)) (tLoc O 78 (by kernel_rfl) (kindAt hsc (by kernel_rfl)) (by decide))) (sCons (sWhile 400 (sCmpT (sLoc O 77 (by kernel_rfl) (kindAt hsc (by kernel_rfl)) (by kernel_rfl)) sInt oGt) (sCons (sAug O 77 (by kernel_rfl) (kindAt hsc (by kernel_rfl)) (by decide) sInt oIDiv) (sCons (sAsg (sBin (sCall O (sGlob O (v := .ref 320) (hK ▸ kf_gl320 _) (kindAt hsc (by kernel_rfl)) (by kernel_rfl)) (sArgs (sBin sInt (sBin (sLoc O 77 (by kernel_rfl) (kindAt hsc (by kernel_rfl)) (by kernel_rfl)) sInt oMod) oAdd) sArgs0) h_law_sign (Kp.of (hK ▸ kf_kp320 _)) (by decide)) (sLoc O 78 (by kernel_rfl) (kindAt hsc (by kernel_rfl)) (by kernel_rfl)) oAdd) (tLoc O 78 (by kernel_rfl) (kindAt hsc (by kernel_rfl)) (by decide))) sNil))) (sCons (sRet (sLoc O 78 (by kernel_rfl) (kindAt hsc (by kernel_rfl)) (by kernel_rfl))) sNil)))
      all_goals first | rfl | decide
    have hw_parse_varint : ∀ (W : Wo) (hK : W.K = main.heap_1_39 W.w.params), SC W 3 (.ref 153) [] Fw_parse_varint := by
      intro W hK
      clear h_law_name h_law_sign h_law_lies h_wsinit h_longest_run_of_spaces h_indent_level h_not_equal_witness h_Whitespace h_law_pieces pat163 pat168 h_hdinit h_convert_string_type h_items h_add_header h_get_all h_Headers h_law_first h_law_second numG g_in1 g_in2 codeHd1 codeHd2 h_int2digits h_digits2int h_div2n1n h_divmod_pos h_idm h_idm3 hw_law_cells hw_law_octets
      have kf_gb_next : ∀ (P : Params), nsIn (main.heap_1_39 P) mainGlobals "next" = some none := by
        intro P
        kernel_rfl
      refine' SC_def [] ?ho_141 ?hcd_141 ?hbind_141 ?hps_141 ?hpn_141 ?hloc_141 ?hbody_141 ?hco_141 ?hgen_141 ?hk_141 ?hcell_141
      case ho_141 => rw [hK]; rfl
      case hcd_141 => rw [hK]; kernel_rfl
      case hbind_141 => intro s xs X h; obtain ⟨x0, rfl⟩ := len1 h; exact BindsTo.of_eq rfl
      case hps_141 => decide
      case hpn_141 => decide
      case hloc_141 => decide +kernel
      case hbody_141 =>
        intro cx O he
        have hsc : cx.env.scope = _ := congrArg Env.scope he
        exact (sCons (sAsg (sCall O (sBui O (hK ▸ kf_gb_next _) (by kernel_rfl) (by decide) (kindAt hsc (by kernel_rfl)) (by kernel_rfl)) (sArgs (sLoc O 43 (by kernel_rfl) (kindAt hsc (by kernel_rfl)) (by kernel_rfl)) sArgs0) (SF1 (cNext 0)) Kp.builtin (Nat.zero_le _)) (tLoc O 4 (by kernel_rfl) (kindAt hsc (by kernel_rfl)) (by decide))) (sCons (sAsg (sBin (sLoc O 4 (by kernel_rfl) (kindAt hsc (by kernel_rfl)) (by kernel_rfl)) sInt oAnd) (tLoc O 44 (by kernel_rfl) (kindAt hsc (by kernel_rfl)) (by decide))) (sCons (sWhile 400 (sTru (sBin (sLoc O 4 (by kernel_rfl) (kindAt hsc (by kernel_rfl)) (by kernel_rfl)) sInt oAnd)) (sCons (sAug O 44 (by kernel_rfl) (kindAt hsc (by kernel_rfl)) (by decide) sInt oIShl) (sCons (sAsg (sCall O (sBui O (hK ▸ kf_gb_next _) (by kernel_rfl) (by decide) (kindAt hsc (by kernel_rfl)) (by kernel_rfl)) (sArgs (sLoc O 43 (by kernel_rfl) (kindAt hsc (by kernel_rfl)) (by kernel_rfl)) sArgs0) (SF1 (cNext 0)) Kp.builtin (Nat.zero_le _)) (tLoc O 4 (by kernel_rfl) (kindAt hsc (by kernel_rfl)) (by decide))) (sCons (sAug O 44 (by kernel_rfl) (kindAt hsc (by kernel_rfl)) (by decide) (sBin (sLoc O 4 (by kernel_rfl) (kindAt hsc (by kernel_rfl)) (by kernel_rfl)) sInt oAnd) oIOr) sNil)))) (sCons (sRet (sLoc O 44 (by kernel_rfl) (kindAt hsc (by kernel_rfl)) (by kernel_rfl))) sNil))))
      all_goals first | rfl | decide
    have h_law_ends : ∀ (W : Wo) (hK : W.K = main.heap_1_39 W.w.params), SCx W Pr1 32 (.ref 348) F_law_ends := by
      intro W hK
      clear h_law_name h_law_sign h_law_lies h_wsinit h_longest_run_of_spaces h_indent_level h_not_equal_witness h_Whitespace h_law_pieces pat163 pat168 h_hdinit h_convert_string_type h_items h_add_header h_get_all h_Headers h_law_first h_law_second numG g_in1 g_in2 codeHd1 codeHd2 h_int2digits h_digits2int h_div2n1n h_divmod_pos h_idm h_idm3 hw_law_cells hw_law_octets hw_parse_varint
      have kf_kp153 : ∀ (P : Params), keepIn (main.heap_1_39 P) (.ref 153) = true := by
        intro P
        kernel_rfl
      have kf_gl153 : ∀ (P : Params), nsIn (main.heap_1_39 P) mainGlobals "_parse_varint" = some (some (.ref 153)) := by
        intro P
        kernel_rfl
      have kf_gb_next : ∀ (P : Params), nsIn (main.heap_1_39 P) mainGlobals "next" = some none := by
        intro P
        kernel_rfl
      have kf_gb_StopIteration : ∀ (P : Params), nsIn (main.heap_1_39 P) mainGlobals "StopIteration" = some none := by
        intro P
        kernel_rfl
      refine' SCx_ends (n := 30) (f := 348) (g := 153) ?ho1_142 ?hcd1_142 ?ho2_142 ?hcd2_142 ?hb1_142 ?hb2_142 ?hx_142 ?hvp_142 ?hl1_142 ?hl2_142 ?hcell1_142 ?hcell2_142 ?hxd_142 ?hvd_142 ?hyd_142 ?hzd_142 ?hwd_142 ?ey_142 ?ez_142 ?ew_142 ?bz_142 ?bw_142 ?nz_142 ?nw_142 ?ky_142 ?kz_142 ?kw_142 ?hKp_142 ?a1_142 ?a2_142 ?a3_142 ?a4_142 ?a5_142 ?a6_142 ?hsw_142 ?hss_142 ?hB1_142 ?hB2_142
      case ho1_142 => rw [hK]; rfl
      case ho2_142 => rw [hK]; rfl
      case hB1_142 => rfl
      case hB2_142 => rfl
      case hcd1_142 => rw [hK]; kernel_rfl
      case hcd2_142 => rw [hK]; kernel_rfl
      case hb1_142 => intro s u; exact BindsTo.of_eq rfl
      case hb2_142 => intro s u; exact BindsTo.of_eq rfl
      case hx_142 => kernel_rfl
      case hvp_142 => kernel_rfl
      case hl1_142 => kernel_rfl
      case hl2_142 => kernel_rfl
      case hcell1_142 => decide
      case hcell2_142 => decide
      case hxd_142 => decide
      case hvd_142 => decide
      case hyd_142 => decide
      case hzd_142 => decide
      case hwd_142 => decide
      case ey_142 => rw [hK]; exact kf_gl153 _
      case ez_142 => rw [hK]; exact kf_gb_StopIteration _
      case ew_142 => rw [hK]; exact kf_gb_next _
      case bz_142 => kernel_rfl
      case bw_142 => kernel_rfl
      case nz_142 => decide
      case nw_142 => decide
      case ky_142 => kernel_rfl
      case kz_142 => kernel_rfl
      case kw_142 => kernel_rfl
      case hKp_142 => exact Kp.of (hK ▸ kf_kp153 _)
      case hsw_142 => intro _; rfl
      case hss_142 => intro _; rfl
      all_goals rfl
    have ts_law : ∀ (W : Wo) (hK : W.K = main.heap_1_39 W.w.params) (la : Nat) (zs : List Int) (h_law_cells : SCx W (PrS la zs) 2 (.ref 308) (F_law_cells la zs)) (h_int_divmod : SF W 30 (.ref 146) F_int_divmod) (h_law_octets : SF W 30 (.ref 327) F_law_octets) (h_parse_varint : SF W 30 (.ref 153) F_parse_varint) (h_law_ends : SCx W Pr1 32 (.ref 348) F_law_ends) (q a b : Int) (hq : W.q = q) {oc dV kV doc pm cdv ct : Value} {od an : Option Addr} {osl : Array (Option Value)} {name qual : Str} {params : Arguments} {body : List Stmt} {scope : Scope} (hl : (main.heap_1_39 W.w.params).lookup 365 = some ⟨oc, od, .func (fnOf name qual params body scope dV kV doc pm an cdv ct), osl⟩) (cx : Cx) (O : Ok W 40 cx) (hfro : Pr0 cx) (hscr : PrS la zs cx) (hsc : cx.env.scope = scope), TopS W cx body (D_law la zs q a b) := by
      intro W hK la zs h_law_cells h_int_divmod h_law_octets h_parse_varint h_law_ends q a b hq oc dV kV doc pm cdv ct od an osl name qual params body scope hl cx O hfro hscr hsc
      clear h_law_sign h_wsinit h_longest_run_of_spaces h_indent_level h_not_equal_witness h_Whitespace pat163 pat168 h_hdinit h_convert_string_type h_add_header h_Headers numG g_in1 g_in2 codeHd1 codeHd2 h_int2digits h_digits2int h_div2n1n h_divmod_pos h_idm h_idm3 hw_law_cells hw_law_octets hw_parse_varint
      have kf_pg297 : ∀ (P : Params), plainGet (main.heap_1_39 P) 297 "x" = true := by
        intro P
        kernel_rfl
      have kf_me236 : ∀ (P : Params), findIn (main.heap_1_39 P) (.ref 297) "get_all" = some (some (.ref 236)) := by
        intro P
        kernel_rfl
      have kf_fn236 : ∀ (P : Params), isFn (main.heap_1_39 P) (.ref 236) = true := by
        intro P
        kernel_rfl
      have kf_kp236 : ∀ (P : Params), keepIn (main.heap_1_39 P) (.ref 236) = true := by
        intro P
        kernel_rfl
      have kf_me261 : ∀ (P : Params), findIn (main.heap_1_39 P) (.ref 297) "items" = some (some (.ref 261)) := by
        intro P
        kernel_rfl
      have kf_fn261 : ∀ (P : Params), isFn (main.heap_1_39 P) (.ref 261) = true := by
        intro P
        kernel_rfl
      have kf_kp261 : ∀ (P : Params), keepIn (main.heap_1_39 P) (.ref 261) = true := by
        intro P
        kernel_rfl
      have kf_kp308 : ∀ (P : Params), keepIn (main.heap_1_39 P) (.ref 308) = true := by
        intro P
        kernel_rfl
      have kf_kp313 : ∀ (P : Params), keepIn (main.heap_1_39 P) (.ref 313) = true := by
        intro P
        kernel_rfl
      have kf_kp334 : ∀ (P : Params), keepIn (main.heap_1_39 P) (.ref 334) = true := by
        intro P
        kernel_rfl
      have kf_kp341 : ∀ (P : Params), keepIn (main.heap_1_39 P) (.ref 341) = true := by
        intro P
        kernel_rfl
      have kf_kp353 : ∀ (P : Params), keepIn (main.heap_1_39 P) (.ref 353) = true := by
        intro P
        kernel_rfl
      have kf_kp360 : ∀ (P : Params), keepIn (main.heap_1_39 P) (.ref 360) = true := by
        intro P
        kernel_rfl
      have kf_gl308 : ∀ (P : Params), nsIn (main.heap_1_39 P) mainGlobals "_law_cells" = some (some (.ref 308)) := by
        intro P
        kernel_rfl
      have kf_gl313 : ∀ (P : Params), nsIn (main.heap_1_39 P) mainGlobals "_law_pieces" = some (some (.ref 313)) := by
        intro P
        kernel_rfl
      have kf_gl334 : ∀ (P : Params), nsIn (main.heap_1_39 P) mainGlobals "_law_name" = some (some (.ref 334)) := by
        intro P
        kernel_rfl
      have kf_gl341 : ∀ (P : Params), nsIn (main.heap_1_39 P) mainGlobals "_law_first" = some (some (.ref 341)) := by
        intro P
        kernel_rfl
      have kf_gl353 : ∀ (P : Params), nsIn (main.heap_1_39 P) mainGlobals "_law_second" = some (some (.ref 353)) := by
        intro P
        kernel_rfl
      have kf_gl360 : ∀ (P : Params), nsIn (main.heap_1_39 P) mainGlobals "_law_lies" = some (some (.ref 360)) := by
        intro P
        kernel_rfl
      have kf_gb_len : ∀ (P : Params), nsIn (main.heap_1_39 P) mainGlobals "len" = some none := by
        intro P
        kernel_rfl
      have kf_gb_range : ∀ (P : Params), nsIn (main.heap_1_39 P) mainGlobals "range" = some none := by
        intro P
        kernel_rfl
      have kf_gb_sum : ∀ (P : Params), nsIn (main.heap_1_39 P) mainGlobals "sum" = some none := by
        intro P
        kernel_rfl
      have h_law_pieces := (h_law_pieces W hK h_int_divmod).sf
      have h_law_first := (h_law_first W hK h_law_octets).sf
      have h_law_second := (h_law_second W hK h_int_divmod h_parse_varint h_law_ends)
      have h_get_all := (h_get_all W hK).sf
      have h_items := (h_items W hK).sf
      have h_law_name := (h_law_name W hK).sf
      have h_law_lies := (h_law_lies W hK).sf
      have hl' := Option.some.inj hl
      injection hl' with _ _ e1 _
      injection e1 with e1
      injection e1 with _ _ _ e2 e3 _ _ _ _ _ _ _ _ _ _
      injection e2 with e2
      subst e2
      subst e3
      exact (topCons (sAsg (sCallX O hscr (sGlob O (v := .ref 308) (hK ▸ kf_gl308 _) (kindAt hsc (by kernel_rfl)) (by kernel_rfl)) (sArgs (sLoc O 58 (by kernel_rfl) (kindAt hsc (by kernel_rfl)) (by kernel_rfl)) sArgs0) h_law_cells (Kp.of (hK ▸ kf_kp308 _)) (by decide)) (tLoc O 59 (by kernel_rfl) (kindAt hsc (by kernel_rfl)) (by decide))) (topCons (sAsg (sBin sInt (sBin (sSub (sLoc O 59 (by kernel_rfl) (kindAt hsc (by kernel_rfl)) (by kernel_rfl)) sInt) sInt oMod) oAdd) (tCel O 94 (by kernel_rfl) (kindAt hsc (by kernel_rfl)))) (topCons (sAsg (sBin sInt (sBin (sSub (sLoc O 59 (by kernel_rfl) (kindAt hsc (by kernel_rfl)) (by kernel_rfl)) sInt) (sBin sInt (sCel O 94 (by kernel_rfl) (kindAt hsc (by kernel_rfl)) (by kernel_rfl)) oSub) oMod) oAdd) (tCel O 38 (by kernel_rfl) (kindAt hsc (by kernel_rfl)))) (topCons (sAsg (sBin (sSub (sLoc O 59 (by kernel_rfl) (kindAt hsc (by kernel_rfl)) (by kernel_rfl)) sInt) sInt oMod) (tLoc O 61 (by kernel_rfl) (kindAt hsc (by kernel_rfl)) (by decide))) (topCons (sAsg (sBin sInt (sBin (sBin (sSub (sLoc O 59 (by kernel_rfl) (kindAt hsc (by kernel_rfl)) (by kernel_rfl)) sInt) sInt oDiv) sInt oMod) oAdd) (tLoc O 60 (by kernel_rfl) (kindAt hsc (by kernel_rfl)) (by decide))) (topCons (sAsg (sBin (sSub (sLoc O 59 (by kernel_rfl) (kindAt hsc (by kernel_rfl)) (by kernel_rfl)) sInt) sInt oMod) (tLoc O 35 (by kernel_rfl) (kindAt hsc (by kernel_rfl)) (by decide))) (topRe 35 hq (topNm [61, 60, 35] (topCons (sAsg (sCall O (sGlob O (v := .ref 313) (hK ▸ kf_gl313 _) (kindAt hsc (by kernel_rfl)) (by kernel_rfl)) (sArgs (sCel O 94 (by kernel_rfl) (kindAt hsc (by kernel_rfl)) (by kernel_rfl)) (sArgs (sLoc O 60 (by kernel_rfl) (kindAt hsc (by kernel_rfl)) (by kernel_rfl)) (sArgs (sLoc O 61 (by kernel_rfl) (kindAt hsc (by kernel_rfl)) (by kernel_rfl)) sArgs0))) h_law_pieces (Kp.of (hK ▸ kf_kp313 _)) (by decide)) (tLoc O 64 (by kernel_rfl) (kindAt hsc (by kernel_rfl)) (by decide))) (topNm [64, 61, 60, 35] (topCons (sAsg (sCall O (sGlob O (v := .ref 313) (hK ▸ kf_gl313 _) (kindAt hsc (by kernel_rfl)) (by kernel_rfl)) (sArgs (sCel O 38 (by kernel_rfl) (kindAt hsc (by kernel_rfl)) (by kernel_rfl)) (sArgs (sLoc O 60 (by kernel_rfl) (kindAt hsc (by kernel_rfl)) (by kernel_rfl)) (sArgs (sLoc O 61 (by kernel_rfl) (kindAt hsc (by kernel_rfl)) (by kernel_rfl)) sArgs0))) h_law_pieces (Kp.of (hK ▸ kf_kp313 _)) (by decide)) (tLoc O 95 (by kernel_rfl) (kindAt hsc (by kernel_rfl)) (by decide))) (topNm [64, 95, 35] (topCons (sIf (sCmpT (sLoc O 64 (by kernel_rfl) (kindAt hsc (by kernel_rfl)) (by kernel_rfl)) (sComp O [94] [] 400 (sIter O (sCall O (sBui O (hK ▸ kf_gb_range _) (by kernel_rfl) (by decide) (kindAt hsc (by kernel_rfl)) (by kernel_rfl)) (sArgs sInt (sArgs (sBin (sCel O 94 (by kernel_rfl) (kindAt hsc (by kernel_rfl)) (by kernel_rfl)) sInt oAdd) sArgs0)) (SF12 (cRange1 0) (cRange2 0)) Kp.type (Nat.zero_le _))) (fun _ O1 hs1 => have h1 := hs1.trans (congrArg (relabelS _) hsc); (tLoc O1 79 (by kernel_rfl) (kindAt h1 (by kernel_rfl)) (by decide))) (fun _ O1 hs1 => have h1 := hs1.trans (congrArg (relabelS _) hsc); (ifs1 (sCmpT (sBin (sCel O1 94 (by kernel_rfl) (kindAt h1 (by kernel_rfl)) (by kernel_rfl)) (sLoc O1 79 (by kernel_rfl) (kindAt h1 (by kernel_rfl)) (by kernel_rfl)) oMod) sInt (oEq O1)))) (fun _ O1 hs1 => have h1 := hs1.trans (congrArg (relabelS _) hsc); (sTup (sArgs (sBin (sCel O1 94 (by kernel_rfl) (kindAt h1 (by kernel_rfl)) (by kernel_rfl)) (sLoc O1 79 (by kernel_rfl) (kindAt h1 (by kernel_rfl)) (by kernel_rfl)) oDiv) (sArgs (sLoc O1 79 (by kernel_rfl) (kindAt h1 (by kernel_rfl)) (by kernel_rfl)) sArgs0)))) (by kernel_rfl) (by intro _; rfl) (by intro _ _; rfl) (by decide) (by kernel_rfl) (by decide)) (oNe O)) (sCons (sRet sBool) sNil) sNil) (topCons (sIf (sCmpT (sLoc O 95 (by kernel_rfl) (kindAt hsc (by kernel_rfl)) (by kernel_rfl)) (sComp O [38] [] 400 (sIter O (sCall O (sBui O (hK ▸ kf_gb_range _) (by kernel_rfl) (by decide) (kindAt hsc (by kernel_rfl)) (by kernel_rfl)) (sArgs sInt (sArgs (sBin (sCel O 38 (by kernel_rfl) (kindAt hsc (by kernel_rfl)) (by kernel_rfl)) sInt oAdd) sArgs0)) (SF12 (cRange1 0) (cRange2 0)) Kp.type (Nat.zero_le _))) (fun _ O1 hs1 => have h1 := hs1.trans (congrArg (relabelS _) hsc); (tLoc O1 79 (by kernel_rfl) (kindAt h1 (by kernel_rfl)) (by decide))) (fun _ O1 hs1 => have h1 := hs1.trans (congrArg (relabelS _) hsc); (ifs1 (sCmpT (sBin (sCel O1 38 (by kernel_rfl) (kindAt h1 (by kernel_rfl)) (by kernel_rfl)) (sLoc O1 79 (by kernel_rfl) (kindAt h1 (by kernel_rfl)) (by kernel_rfl)) oMod) sInt (oEq O1)))) (fun _ O1 hs1 => have h1 := hs1.trans (congrArg (relabelS _) hsc); (sTup (sArgs (sBin (sCel O1 38 (by kernel_rfl) (kindAt h1 (by kernel_rfl)) (by kernel_rfl)) (sLoc O1 79 (by kernel_rfl) (kindAt h1 (by kernel_rfl)) (by kernel_rfl)) oDiv) (sArgs (sLoc O1 79 (by kernel_rfl) (kindAt h1 (by kernel_rfl)) (by kernel_rfl)) sArgs0)))) (by kernel_rfl) (by intro _; rfl) (by intro _ _; rfl) (by decide) (by kernel_rfl) (by decide)) (oNe O)) (sCons (sRet sBool) sNil) sNil) (topNm [64, 95, 35] (topCons (sAsg (sCallX O hfro (sGlob O (v := .ref 353) (hK ▸ kf_gl353 _) (kindAt hsc (by kernel_rfl)) (by kernel_rfl)) (sArgs (sCall O (sGlob O (v := .ref 341) (hK ▸ kf_gl341 _) (kindAt hsc (by kernel_rfl)) (by kernel_rfl)) (sArgs (sLoc O 64 (by kernel_rfl) (kindAt hsc (by kernel_rfl)) (by kernel_rfl)) (sArgs (sLoc O 35 (by kernel_rfl) (kindAt hsc (by kernel_rfl)) (by kernel_rfl)) sArgs0)) h_law_first (Kp.of (hK ▸ kf_kp341 _)) (by decide)) (sArgs (sLoc O 95 (by kernel_rfl) (kindAt hsc (by kernel_rfl)) (by kernel_rfl)) (sArgs (sLoc O 35 (by kernel_rfl) (kindAt hsc (by kernel_rfl)) (by kernel_rfl)) sArgs0))) h_law_second (Kp.of (hK ▸ kf_kp353 _)) (by decide)) (tLoc O 96 (by kernel_rfl) (kindAt hsc (by kernel_rfl)) (by decide))) (topCons (sIf (sCmpT (sLoc O 96 (by kernel_rfl) (kindAt hsc (by kernel_rfl)) (by kernel_rfl)) sNone oIs) (sCons (sRet sBool) sNil) sNil) (topCons (sAsgN (sComp2 O [] [] 400 (sIter O (sLoc O 64 (by kernel_rfl) (kindAt hsc (by kernel_rfl)) (by kernel_rfl))) (fun _ O1 hs1 => have h1 := hs1.trans (congrArg (relabelS _) hsc); (tTup O1 (.cons (tLoc O1 17 (by kernel_rfl) (kindAt h1 (by kernel_rfl)) (by decide)) (fun _ => rfl) (.cons (tLoc O1 79 (by kernel_rfl) (kindAt h1 (by kernel_rfl)) (by decide)) (fun _ => rfl) .nil)))) (fun _ O1 hs1 => have h1 := hs1.trans (congrArg (relabelS _) hsc); (sIter O1 (sCall O1 (sBui O1 (hK ▸ kf_gb_range _) (by kernel_rfl) (by decide) (kindAt h1 (by kernel_rfl)) (by kernel_rfl)) (sArgs (sLoc O1 79 (by kernel_rfl) (kindAt h1 (by kernel_rfl)) (by kernel_rfl)) sArgs0) (SF12 (cRange1 0) (cRange2 0)) Kp.type (Nat.zero_le _)))) (fun _ O1 hs1 => have h1 := hs1.trans (congrArg (relabelS _) hsc); (tLoc O1 4 (by kernel_rfl) (kindAt h1 (by kernel_rfl)) (by decide))) (fun _ O1 hs1 => have h1 := hs1.trans (congrArg (relabelS _) hsc); (sTup (sArgs (sLoc O1 17 (by kernel_rfl) (kindAt h1 (by kernel_rfl)) (by kernel_rfl)) (sArgs (sLoc O1 4 (by kernel_rfl) (kindAt h1 (by kernel_rfl)) (by kernel_rfl)) (sArgs (sLoc O1 79 (by kernel_rfl) (kindAt h1 (by kernel_rfl)) (by kernel_rfl)) sArgs0))))) (by kernel_rfl) (by intro _; rfl) (by intro _ _; rfl) (by decide) (by kernel_rfl) (by decide)) (tCel O 97 (by kernel_rfl) (kindAt hsc (by kernel_rfl))) (swaps_of hsc fun _ => rfl)) (topCons (sAsgComp O 98 [38] [] 400 (sIter O (sLoc O 64 (by kernel_rfl) (kindAt hsc (by kernel_rfl)) (by kernel_rfl))) (fun _ O1 hs1 => have h1 := hs1.trans (congrArg (relabelS _) hsc); (tTup O1 (.cons (tLoc O1 17 (by kernel_rfl) (kindAt h1 (by kernel_rfl)) (by decide)) (fun _ => rfl) (.cons (tLoc O1 79 (by kernel_rfl) (kindAt h1 (by kernel_rfl)) (by decide)) (fun _ => rfl) .nil)))) (fun _ O1 hs1 => have h1 := hs1.trans (congrArg (relabelS _) hsc); (ifs1 (sCmpT (sBin (sCel O1 38 (by kernel_rfl) (kindAt h1 (by kernel_rfl)) (by kernel_rfl)) (sLoc O1 79 (by kernel_rfl) (kindAt h1 (by kernel_rfl)) (by kernel_rfl)) oMod) sInt (oEq O1)))) (fun _ O1 hs1 => have h1 := hs1.trans (congrArg (relabelS _) hsc); (sLoc O1 79 (by kernel_rfl) (kindAt h1 (by kernel_rfl)) (by kernel_rfl))) (by kernel_rfl) (by decide) (kindAt hsc (by kernel_rfl)) (swaps_of hsc fun _ => rfl) (by kernel_rfl) (by intro _; rfl) (by intro _ _; rfl) (by decide) (by kernel_rfl) (by decide)) (topCons (sAsg sInt (tLoc O 99 (by kernel_rfl) (kindAt hsc (by kernel_rfl)) (by decide))) (topCons (sFor O 400 (sIter O (sCall O (sBui O (hK ▸ kf_gb_range _) (by kernel_rfl) (by decide) (kindAt hsc (by kernel_rfl)) (by kernel_rfl)) (sArgs sInt (sArgs (sBin (sBin (sCel O 94 (by kernel_rfl) (kindAt hsc (by kernel_rfl)) (by kernel_rfl)) (sCel O 38 (by kernel_rfl) (kindAt hsc (by kernel_rfl)) (by kernel_rfl)) oMul) sInt oAdd) sArgs0)) (SF12 (cRange1 0) (cRange2 0)) Kp.type (Nat.zero_le _))) (fun pv => have O := O.wp pv; have hsc := hsc; (tLoc O 79 (by kernel_rfl) (kindAt hsc (by kernel_rfl)) (by decide))) (fun pv => have O := O.wp pv; have hsc := hsc; (sCons (sIf (sCmpT (sBin (sBin (sCel O 94 (by kernel_rfl) (kindAt hsc (by kernel_rfl)) (by kernel_rfl)) (sCel O 38 (by kernel_rfl) (kindAt hsc (by kernel_rfl)) (by kernel_rfl)) oMul) (sLoc O 79 (by kernel_rfl) (kindAt hsc (by kernel_rfl)) (by kernel_rfl)) oMod) sInt (oEq O)) (sCons (sFor O 400 (sIter O (sCall O (sBui O (hK ▸ kf_gb_range _) (by kernel_rfl) (by decide) (kindAt hsc (by kernel_rfl)) (by kernel_rfl)) (sArgs (sLoc O 79 (by kernel_rfl) (kindAt hsc (by kernel_rfl)) (by kernel_rfl)) sArgs0) (SF12 (cRange1 0) (cRange2 0)) Kp.type (Nat.zero_le _))) (fun pv => have O := O.wp pv; have hsc := hsc; (tLoc O 4 (by kernel_rfl) (kindAt hsc (by kernel_rfl)) (by decide))) (fun pv => have O := O.wp pv; have hsc := hsc; (sCons (sAsg (sTup (sArgs (sBin (sBin (sCel O 94 (by kernel_rfl) (kindAt hsc (by kernel_rfl)) (by kernel_rfl)) (sCel O 38 (by kernel_rfl) (kindAt hsc (by kernel_rfl)) (by kernel_rfl)) oMul) (sLoc O 79 (by kernel_rfl) (kindAt hsc (by kernel_rfl)) (by kernel_rfl)) oDiv) (sArgs (sLoc O 4 (by kernel_rfl) (kindAt hsc (by kernel_rfl)) (by kernel_rfl)) (sArgs (sLoc O 79 (by kernel_rfl) (kindAt hsc (by kernel_rfl)) (by kernel_rfl)) sArgs0)))) (tCel O 92 (by kernel_rfl) (kindAt hsc (by kernel_rfl)))) (sCons (sAsg (sCall O (sGlob O (v := .ref 334) (hK ▸ kf_gl334 _) (kindAt hsc (by kernel_rfl)) (by kernel_rfl)) (sArgs (sSub (sCel O 92 (by kernel_rfl) (kindAt hsc (by kernel_rfl)) (by kernel_rfl)) sInt) (sArgs (sLoc O 4 (by kernel_rfl) (kindAt hsc (by kernel_rfl)) (by kernel_rfl)) (sArgs (sLoc O 79 (by kernel_rfl) (kindAt hsc (by kernel_rfl)) (by kernel_rfl)) sArgs0))) h_law_name (Kp.of (hK ▸ kf_kp334 _)) (by decide)) (tLoc O 52 (by kernel_rfl) (kindAt hsc (by kernel_rfl)) (by decide))) (sCons (sAsg (sMeth O (C := 297) (f := 236) (sLoc O 96 (by kernel_rfl) (kindAt hsc (by kernel_rfl)) (by kernel_rfl)) (sArgs (sIfExp (sCmpT (sBin (sLoc O 4 (by kernel_rfl) (kindAt hsc (by kernel_rfl)) (by kernel_rfl)) sInt oMod) sInt (oEq O)) (sMethB chkS O (sLoc O 52 (by kernel_rfl) (kindAt hsc (by kernel_rfl)) (by kernel_rfl)) sArgs0 chkS_is (SF1 (cUpper 0)) (Nat.zero_le _) F.plainAttrs_str F.slot_str_upper F.type_str_upper (fun _ => rfl)) (sLoc O 52 (by kernel_rfl) (kindAt hsc (by kernel_rfl)) (by kernel_rfl))) sArgs0) h_get_all (by decide) (Kp.of (hK ▸ kf_kp236 _)) (hK ▸ kf_pg297 _) (hK ▸ kf_me236 _) (hK ▸ kf_fn236 _) no_get_all (fun _ => rfl)) (tCel O 67 (by kernel_rfl) (kindAt hsc (by kernel_rfl)))) (sCons (sAsgComp O 93 [92, 97, 67] [] 400 (sIter O (sCall O (sBui O (hK ▸ kf_gb_range _) (by kernel_rfl) (by decide) (kindAt hsc (by kernel_rfl)) (by kernel_rfl)) (sArgs (sCall O (sBui O (hK ▸ kf_gb_len _) (by kernel_rfl) (by decide) (kindAt hsc (by kernel_rfl)) (by kernel_rfl)) (sArgs (sCel O 97 (by kernel_rfl) (kindAt hsc (by kernel_rfl)) (by kernel_rfl)) sArgs0) (SF1 (cLen 0)) Kp.builtin (Nat.zero_le _)) sArgs0) (SF12 (cRange1 0) (cRange2 0)) Kp.type (Nat.zero_le _))) (fun _ O1 hs1 => have h1 := hs1.trans (congrArg (relabelS _) hsc); (tLoc O1 50 (by kernel_rfl) (kindAt h1 (by kernel_rfl)) (by decide))) (fun _ O1 hs1 => have h1 := hs1.trans (congrArg (relabelS _) hsc); (ifs1 (sAnd (sCmpT (sSub (sStr (by kernel_rfl)) (sLoc O1 50 (by kernel_rfl) (kindAt h1 (by kernel_rfl)) (by kernel_rfl))) (sCel O1 67 (by kernel_rfl) (kindAt h1 (by kernel_rfl)) (by kernel_rfl)) oIn) (sTru (sCall O1 (sGlob O1 (v := .ref 360) (hK ▸ kf_gl360 _) (kindAt h1 (by kernel_rfl)) (by kernel_rfl)) (sArgs (sCel O1 92 (by kernel_rfl) (kindAt h1 (by kernel_rfl)) (by kernel_rfl)) (sArgs (sSub (sCel O1 97 (by kernel_rfl) (kindAt h1 (by kernel_rfl)) (by kernel_rfl)) (sLoc O1 50 (by kernel_rfl) (kindAt h1 (by kernel_rfl)) (by kernel_rfl))) sArgs0)) h_law_lies (Kp.of (hK ▸ kf_kp360 _)) (by decide)))))) (fun _ O1 hs1 => have h1 := hs1.trans (congrArg (relabelS _) hsc); (sSub (sStr (by kernel_rfl)) (sLoc O1 50 (by kernel_rfl) (kindAt h1 (by kernel_rfl)) (by kernel_rfl)))) (by kernel_rfl) (by decide) (kindAt hsc (by kernel_rfl)) (swaps_of hsc fun _ => rfl) (by kernel_rfl) (by intro _; rfl) (by intro _ _; rfl) (by decide) (by kernel_rfl) (by decide)) (sCons (sAsg (sCall O (sBui O (hK ▸ kf_gb_sum _) (by kernel_rfl) (by decide) (kindAt hsc (by kernel_rfl)) (by kernel_rfl)) (sArgs (sComp O [92] [68] 400 (sIter O (sLoc O 98 (by kernel_rfl) (kindAt hsc (by kernel_rfl)) (by kernel_rfl))) (fun _ O1 hs1 => have h1 := hs1.trans (congrArg (relabelS _) hsc); (tCel O1 68 (by kernel_rfl) (kindAt h1 (by kernel_rfl)))) (fun _ O1 hs1 => have h1 := hs1.trans (congrArg (relabelS _) hsc); (ifs1 (sCmpT (sComp O1 [68] [] 400 (sIter O1 (sCel O1 92 (by kernel_rfl) (kindAt h1 (by kernel_rfl)) (by kernel_rfl))) (fun _ O1 hs1 => have h1 := hs1.trans (congrArg (relabelS _) h1); (tLoc O1 5 (by kernel_rfl) (kindAt h1 (by kernel_rfl)) (by decide))) (fun _ O1 hs1 => have h1 := hs1.trans (congrArg (relabelS _) h1); (ifs1 (sCmpT (sBin (sLoc O1 5 (by kernel_rfl) (kindAt h1 (by kernel_rfl)) (by kernel_rfl)) (sCel O1 68 (by kernel_rfl) (kindAt h1 (by kernel_rfl)) (by kernel_rfl)) oMod) sInt (oNe O1)))) (fun _ O1 hs1 => have h1 := hs1.trans (congrArg (relabelS _) h1); (sLoc O1 5 (by kernel_rfl) (kindAt h1 (by kernel_rfl)) (by kernel_rfl))) (by kernel_rfl) (by intro _; rfl) (by intro _ _; rfl) (by decide) (by kernel_rfl) (by decide)) (sLst sArgs0) (oEq O1)))) (fun _ O1 hs1 => have h1 := hs1.trans (congrArg (relabelS _) hsc); (sCel O1 68 (by kernel_rfl) (kindAt h1 (by kernel_rfl)) (by kernel_rfl))) (by kernel_rfl) (by intro _; rfl) (by intro _ _; rfl) (by decide) (by kernel_rfl) (by decide)) sArgs0) (SF1 (cSum 0)) Kp.builtin (Nat.zero_le _)) (tLoc O 100 (by kernel_rfl) (kindAt hsc (by kernel_rfl)) (by decide))) (sCons (sIf (sOr (sCmpT (sCel O 67 (by kernel_rfl) (kindAt hsc (by kernel_rfl)) (by kernel_rfl)) (sLoc O 93 (by kernel_rfl) (kindAt hsc (by kernel_rfl)) (by kernel_rfl)) (oNe O)) (sCmpT (sCall O (sBui O (hK ▸ kf_gb_len _) (by kernel_rfl) (by decide) (kindAt hsc (by kernel_rfl)) (by kernel_rfl)) (sArgs (sCel O 67 (by kernel_rfl) (kindAt hsc (by kernel_rfl)) (by kernel_rfl)) sArgs0) (SF1 (cLen 0)) Kp.builtin (Nat.zero_le _)) (sLoc O 100 (by kernel_rfl) (kindAt hsc (by kernel_rfl)) (by kernel_rfl)) (oNe O))) (sCons (sRet sBool) sNil) sNil) (sCons (sAug O 99 (by kernel_rfl) (kindAt hsc (by kernel_rfl)) (by decide) (sLoc O 100 (by kernel_rfl) (kindAt hsc (by kernel_rfl)) (by kernel_rfl)) oIAdd) sNil))))))))) sNil) sNil) sNil))) (topOf (sCons (sRet (sAndE (sCmp (sCall O (sBui O (hK ▸ kf_gb_len _) (by kernel_rfl) (by decide) (kindAt hsc (by kernel_rfl)) (by kernel_rfl)) (sArgs (sMeth O (C := 297) (f := 261) (sLoc O 96 (by kernel_rfl) (kindAt hsc (by kernel_rfl)) (by kernel_rfl)) sArgs0 h_items (by decide) (Kp.of (hK ▸ kf_kp261 _)) (hK ▸ kf_pg297 _) (hK ▸ kf_me261 _) (hK ▸ kf_fn261 _) no_items (fun _ => rfl)) sArgs0) (SF1 (cLen 0)) Kp.builtin (Nat.zero_le _)) (sLoc O 99 (by kernel_rfl) (kindAt hsc (by kernel_rfl)) (by kernel_rfl)) (oEq O)) (sCmp (sMeth O (C := 297) (f := 236) (sLoc O 96 (by kernel_rfl) (kindAt hsc (by kernel_rfl)) (by kernel_rfl)) (sArgs (sTo (sLoc O 52 (by kernel_rfl) (kindAt hsc (by kernel_rfl)) (by kernel_rfl)) sInt) sArgs0) h_get_all (by decide) (Kp.of (hK ▸ kf_kp236 _)) (hK ▸ kf_pg297 _) (hK ▸ kf_me236 _) (hK ▸ kf_fn236 _) no_get_all (fun _ => rfl)) (sLst sArgs0) (oEq O)))) sNil)))))))))))))))))))))))
    have N1P : ∀ P : Params, (N1 (main.heap_1_39 P)).P = 120 := by
      intro P
      kernel_rfl
    have N2P : ∀ P : Params, (N2 (main.heap_1_39 P)).P = 127 := by
      intro P
      kernel_rfl
    intro prog w p loose mean mg mb b sz la vs zs env m o0 o1 o2 o3 o4 oc dV kV doc pm cdv ct od an osl name qual params body scope s X Tp F hm Nw hlt c0 c1 c2 c3 c4 k0 k1 k2 k3 k4 hb hI hlen hl hsc hk he1 he2 he3 he4 Q E k
    obtain ⟨q, x, y, ρ, σ, hq, hdd, t0, t1⟩ := good la zs hlen
    let W : Wo := { prog := prog, w := w, K := main.heap_1_39 w.params, p := p, loose := loose, mean := mean, mg := mg, mb := mb, q := q, fs := fsW (main.heap_1_39 w.params), ts := fun _ _ _ => False }
    let cx : Cx := ⟨callerA.deeper env, b, sz, env, [], []⟩
    have hK : W.K = main.heap_1_39 W.w.params := rfl
    have O : Ok W 40 cx := ⟨rfl, by show 1 + claimMargin + 1 + 40 < recursionLimit; decide, by show 4 + 3 + 8 * 40 + 100 < cLine; decide, X, Tp, he1, hk, he2, he3, hq, b, [env], rfl, fun h' m' F' _ => ⟨F'.keep, .cons (by rw [hk]; exact fun h => nomatch h) he4 F'.ns (fr_selfNone F') trivial⟩⟩
    have hp0 : Pr0 cx := ⟨[env], rfl, fun e he a ha => by
      obtain rfl := List.mem_singleton.mp he
      rw [he4] at ha
      exact .inl (Option.some.inj ha).symm⟩
    have f1 : ∀ cs o, W.fs 0 cs o ↔ tabP (N1 (main.heap_1_39 W.w.params)) cs o := fun _ _ => .rfl
    have f2 : ∀ cs o, W.fs 1 cs o ↔ codP (N1 (main.heap_1_39 W.w.params)) cs o := fun _ _ => .rfl
    have f3 : ∀ cs o, W.fs 2 cs o ↔ funP (N1 (main.heap_1_39 W.w.params)) cs o := fun _ _ => .rfl
    have f4 : ∀ cs o, W.fs 3 cs o ↔ tabP (N2 (main.heap_1_39 W.w.params)) cs o := fun _ _ => .rfl
    have f5 : ∀ cs o, W.fs 4 cs o ↔ codP (N2 (main.heap_1_39 W.w.params)) cs o := fun _ _ => .rfl
    have f6 : ∀ cs o, W.fs 5 cs o ↔ funP (N2 (main.heap_1_39 W.w.params)) cs o := fun _ _ => .rfl
    have T := ts_law W hK la zs (SCx_cel (hw_law_cells W hK la zs)) ((SF_idm (h_idm3 W hK f1 f2 f3 f4 f5 f6)).le (by decide)) ((SF_oct (hw_law_octets W hK).sf).le (by decide)) ((SF_var (hw_parse_varint W hK).sf).le (by decide)) (h_law_ends W hK) q x y rfl hl cx O hp0 ⟨vs, hb, hI⟩ hsc
    refine T _ _ _ _ _ _ hdd s Q E (st_first (N1P w.params) (N2P w.params) f1 f4 rfl rfl F hm Nw hlt c0 c1 c2 c3 c4 k0 k1 k2 k3 k4) fun ads' h' tk S => k h' tk ?_ ?_ ?_
    · obtain ⟨m', F', _⟩ := S.fr
      exact F'.keep
    · have := tab_at S f1 t0
      rwa [N1P w.params] at this
    · have := tab_at S f4 t1
      rwa [N2P w.params] at this
  k_go0
  rename_i w s0 s1 mg mb G Y fa o pm cd doc ho hcd hg X V T B TE TW zs hs hlay0 hL1 hr1 hl2 a9 a8 la vs a5 hL ra w1 r0 hI hr hcond hcond2 hD h1 tk1 o4 o3 o2 o1 o0 c4 c3 c2 c1 c0 X0 Xk Tp Kp F cdh N l0
  have hb := ghost_at (well_list w1 hL) hT8
  have hlen : zs.length ≤ 63 := by omega
  refine' main_fin (la := la) (vs := vs) (zs := zs) (sz := s1.heap.objs.size) _ Xk Tp F ?zhm N l0.1 c0 c1 c2 c3 c4 rfl rfl rfl rfl rfl hb hI hlen ?zhl ?zhsc ?zhk rfl rfl rfl rfl ?zk
  case zhm => rfl
  case zhl => rfl
  case zhsc => rfl
  case zhk => rfl
  intro h' tk keep g1 g2
  refine ⟨⟨.inl ⟨_, .bool true, [], rfl, fun _ => rfl, ?zb, ?zc, fun h => ?zd⟩, keep, rfl, hg⟩, ⟨g2, g1, trivial⟩⟩
  case zb => exact .bool true
  case zc => wrow_post
  case zd => exact ⟨.nil, fun a ha => nomatch ha⟩
end Mine
theorem PySem.Challenge.cw_uc0058_01_holds : PySem.Challenge.rw_uc0058_01.Holds :=
  Mine.main
