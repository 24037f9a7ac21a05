import PyProof.Rows.All
import Wide.All
import OpenK.AllK
import Wide.FinOn
import PySem.Challenge.RW_ik0005_01
set_option Elab.async false
set_option maxRecDepth 100000
set_option linter.unusedVariables false
/-! the head: what is said of the text, and the run of its top; the only two large steps for the kernel -/
namespace Mine
open PySem PySem.W PyProof.Rows
/-- the text without its rows of names -/
noncomputable def vw : Program := { PySem.Challenge.pw_ik0005_01 with main := { PySem.Challenge.pw_ik0005_01.main with body := PySem.Challenge.pw_ik0005_01.main.body.filter fun st => match st with | .Assign .. => false | _ => true } }
noncomputable abbrev rwOf : RowW := OpenRow.toRowW (OpenLaw.row PySem.Challenge.rw_ik0005_01)
theorem said : PySem.Challenge.rw_ik0005_01.wellSaid = true := by decide +kernel
theorem left : LeftO PySem.Challenge.pw_ik0005_01 vw [] (fun s => xlAt vw [] s && recOk (RowW.records rwOf) s) (Hook.obs Hook.none) (Hook.val Hook.none) 2750 := by
  intro w
  kernel_rfl
end Mine
namespace Mine
open PySem PySem.Calls PySem.W PyProof.Rows

/-! data, frozen cells -/
inductive D where
  | none
  | bool (b : Bool)
  | int (i : Int)
  | str (x : Str)
  | ty (n : String)
  | fn (a : Addr)
  | bi (id : String)
  | tup (ds : List D)
  | lst (ds : List D)
  | dct (kds : List (Str × D))
  | itm (kds : List (Str × D))
  | vls (kds : List (Str × D))
  | rng (k : Nat)
  | slc (lo hi : Option Int)

inductive LV where
  | val (d : D)
  | own (d : D)
abbrev Sto := List (Str × LV)
abbrev Fz := Addr → Option Obj
def FLe (Z Z' : Fz) : Prop := ∀ a o, Z a = some o → Z' a = some o
def FIn (Z : Fz) (h : Heap) : Prop := ∀ a o, Z a = some o → h.get? a = some o
def fset (Z : Fz) (a : Addr) (o : Obj) : Fz := fun b => if b = a then some o else Z b
def forr (Y R : Fz) : Fz := fun a => (Y a).or (R a)
theorem FLe.refl (Z : Fz) : FLe Z Z := fun _ _ e => e
theorem FLe.trans {a b c : Fz} (x : FLe a b) (y : FLe b c) : FLe a c := fun i o e => y i o (x i o e)
theorem fset_self {Z : Fz} {a : Addr} {o : Obj} : fset Z a o a = some o := if_pos rfl
theorem fset_ne {Z : Fz} {a b : Addr} {o : Obj} (h : b ≠ a) : fset Z a o b = Z b := if_neg h
theorem fle_fset {Z : Fz} {a : Addr} {o : Obj} (h : Z a = none) : FLe Z (fset Z a o) := fun b o' e => by
  by_cases hb : b = a
  · subst hb; rw [h] at e; cases e
  · rw [fset_ne hb]; exact e

abbrev lstO (vs : List Value) (n : Nat) : Obj := { cls := .type "list", dict := none, data := .seq vs.toArray n, slots := #[] }
abbrev tupO (vs : List Value) (n : Nat) : Obj := { cls := .type "tuple", dict := none, data := .seq vs.toArray n, slots := #[] }
abbrev dctO (es : List DictEntry) (n : Nat) : Obj := { cls := .type "dict", dict := none, data := .dict es.toArray n, slots := #[] }

mutual
inductive Is (hs : Str → Int) (Z : Fz) : Value → D → Prop
  | none : Is hs Z .none .none
  | bool (b : Bool) : Is hs Z (.bool b) (.bool b)
  | int (i : Int) (t : Tok) : Is hs Z (.int i t) (.int i)
  | str (x : Str) (t : Tok) : Is hs Z (.str x t) (.str x)
  | ty (n : String) : Is hs Z (.type n) (.ty n)
  | fn (a : Addr) : Is hs Z (.ref a) (.fn a)
  | bi (id : String) : Is hs Z (.builtin id) (.bi id)
  | tup {a : Addr} {vs : List Value} {n : Nat} {ds : List D} : Z a = some (tupO vs n) → vs.length ≤ sizeLine → IsAll hs Z vs ds → Is hs Z (.ref a) (.tup ds)
  | lst {a : Addr} {vs : List Value} {n : Nat} {ds : List D} : Z a = some (lstO vs n) → vs.length ≤ sizeLine → IsAll hs Z vs ds → Is hs Z (.ref a) (.lst ds)
  | dct {a : Addr} {es : List DictEntry} {n : Nat} {kds : List (Str × D)} : Z a = some (dctO es n) → (a == sysModules) = false → es.length ≤ sizeLine → IsEnts hs Z es kds → (kds.map (·.1)).Nodup → Is hs Z (.ref a) (.dct kds)
  | itm {v a : Addr} {kds : List (Str × D)} : Z v = some { cls := .type "dict_items", data := .fields #[.ref a] } → Is hs Z (.ref a) (.dct kds) → Is hs Z (.ref v) (.itm kds)
  | vls {v a : Addr} {kds : List (Str × D)} : Z v = some { cls := .type "dict_values", data := .fields #[.ref a] } → Is hs Z (.ref a) (.dct kds) → Is hs Z (.ref v) (.vls kds)
  | rng {a : Addr} {k : Nat} {t u v : Tok} : Z a = some { cls := .type "range", data := .fields #[.int 0 t, .int k u, .int 1 v] } → Is hs Z (.ref a) (.rng k)
  | slc {a : Addr} {vl vu : Value} {lo hi : Option Int} : Z a = some { cls := .type "slice", dict := none, data := .fields #[vl, vu, .none], slots := #[] } → IsPart vl lo → IsPart vu hi → Is hs Z (.ref a) (.slc lo hi)
inductive IsAll (hs : Str → Int) (Z : Fz) : List Value → List D → Prop
  | nil : IsAll hs Z [] []
  | cons {v : Value} {vs : List Value} {d : D} {ds : List D} : Is hs Z v d → IsAll hs Z vs ds → IsAll hs Z (v :: vs) (d :: ds)
inductive IsEnts (hs : Str → Int) (Z : Fz) : List DictEntry → List (Str × D) → Prop
  | nil : IsEnts hs Z [] []
  | cons {x : Str} {t : Tok} {v : Value} {d : D} {es : List DictEntry} {kds : List (Str × D)} : Is hs Z v d → IsEnts hs Z es kds → IsEnts hs Z (⟨hs x, .str x t, v⟩ :: es) ((x, d) :: kds)
end
mutual
theorem Is.mono {hs : Str → Int} {Z Z' : Fz} (h : FLe Z Z') : ∀ {v : Value} {d : D}, Is hs Z v d → Is hs Z' v d
  | _, _, .none => .none
  | _, _, .bool b => .bool b
  | _, _, .int i t => .int i t
  | _, _, .str x t => .str x t
  | _, _, .ty n => .ty n
  | _, _, .fn n => .fn n
  | _, _, .bi n => .bi n
  | _, _, .tup a b c => .tup (h _ _ a) b (IsAll.mono h c)
  | _, _, .lst a b c => .lst (h _ _ a) b (IsAll.mono h c)
  | _, _, .dct a b c d e => .dct (h _ _ a) b c (IsEnts.mono h d) e
  | _, _, .itm a b => .itm (h _ _ a) (Is.mono h b)
  | _, _, .vls a b => .vls (h _ _ a) (Is.mono h b)
  | _, _, .rng a => .rng (h _ _ a)
  | _, _, .slc a b c => .slc (h _ _ a) b c
theorem IsAll.mono {hs : Str → Int} {Z Z' : Fz} (h : FLe Z Z') : ∀ {vs : List Value} {ds : List D}, IsAll hs Z vs ds → IsAll hs Z' vs ds
  | _, _, .nil => .nil
  | _, _, .cons a b => .cons (Is.mono h a) (IsAll.mono h b)
theorem IsEnts.mono {hs : Str → Int} {Z Z' : Fz} (h : FLe Z Z') : ∀ {es : List DictEntry} {kds : List (Str × D)}, IsEnts hs Z es kds → IsEnts hs Z' es kds
  | _, _, .nil => .nil
  | _, _, .cons a b => .cons (Is.mono h a) (IsEnts.mono h b)
end

section
variable {hs : Str → Int} {Z : Fz}
theorem IsAll.length : ∀ {vs : List Value} {ds : List D}, IsAll hs Z vs ds → vs.length = ds.length
  | _, _, .nil => rfl
  | _, _, .cons _ b => by rw [List.length_cons, List.length_cons, b.length]
theorem IsAll.append : ∀ {vs ws : List Value} {ds es : List D}, IsAll hs Z vs ds → IsAll hs Z ws es → IsAll hs Z (vs ++ ws) (ds ++ es)
  | _, _, _, _, .nil, k => k
  | _, _, _, _, .cons a b, k => .cons a (b.append k)
theorem IsAll.get : ∀ {vs : List Value} {ds : List D} {k : Nat} {d : D}, IsAll hs Z vs ds → ds[k]? = some d → ∃ v, vs[k]? = some v ∧ Is hs Z v d
  | _, _, 0, _, .cons a _, e => ⟨_, rfl, by cases e; exact a⟩
  | _, _, k + 1, _, .cons _ b, e => b.get (k := k) e
theorem IsAll.getV : ∀ {vs : List Value} {ds : List D} {k : Nat} {v : Value}, IsAll hs Z vs ds → vs[k]? = some v → ∃ d, ds[k]? = some d ∧ Is hs Z v d
  | _, _, 0, _, .cons a _, e => ⟨_, rfl, by cases e; exact a⟩
  | _, _, k + 1, _, .cons _ b, e => b.getV (k := k) e
theorem IsAll.take : ∀ {vs : List Value} {ds : List D} (k : Nat), IsAll hs Z vs ds → IsAll hs Z (vs.take k) (ds.take k)
  | _, _, 0, _ => .nil
  | _, _, _ + 1, .nil => .nil
  | _, _, k + 1, .cons a b => .cons a (b.take k)
theorem IsAll.drop : ∀ {vs : List Value} {ds : List D} (k : Nat), IsAll hs Z vs ds → IsAll hs Z (vs.drop k) (ds.drop k)
  | _, _, 0, h => h
  | _, _, _ + 1, .nil => .nil
  | _, _, k + 1, .cons _ b => b.drop k
theorem IsAll.one {v : Value} {d : D} (h : Is hs Z v d) : IsAll hs Z [v] [d] := .cons h .nil
/-- what a value that stands for d is -/
def IsInv (hs : Str → Int) (Z : Fz) (v : Value) : D → Prop
  | .none => True
  | .bool b => v = .bool b
  | .int i => ∃ t, v = .int i t
  | .str x => ∃ t, v = .str x t
  | .ty n => v = .type n
  | .fn a => v = .ref a
  | .bi n => v = .builtin n
  | .tup ds => ∃ a vs n, v = .ref a ∧ Z a = some (tupO vs n) ∧ vs.length ≤ sizeLine ∧ IsAll hs Z vs ds
  | .lst ds => ∃ a vs n, v = .ref a ∧ Z a = some (lstO vs n) ∧ vs.length ≤ sizeLine ∧ IsAll hs Z vs ds
  | .dct kds => ∃ a es n, v = .ref a ∧ Z a = some (dctO es n) ∧ (a == sysModules) = false ∧ es.length ≤ sizeLine ∧ IsEnts hs Z es kds ∧ (kds.map (·.1)).Nodup
  | .itm kds => ∃ u a, v = .ref u ∧ Z u = some { cls := .type "dict_items", data := .fields #[.ref a] } ∧ Is hs Z (.ref a) (.dct kds)
  | .vls kds => ∃ u a, v = .ref u ∧ Z u = some { cls := .type "dict_values", data := .fields #[.ref a] } ∧ Is hs Z (.ref a) (.dct kds)
  | .rng k => ∃ a t u x, v = .ref a ∧ Z a = some { cls := .type "range", data := .fields #[.int 0 t, .int k u, .int 1 x] }
  | .slc lo hi => ∃ a vl vu, v = .ref a ∧ Z a = some { cls := .type "slice", dict := Option.none, data := .fields #[vl, vu, .none], slots := #[] } ∧ IsPart vl lo ∧ IsPart vu hi
theorem Is.inv {v : Value} {d : D} (h : Is hs Z v d) : IsInv hs Z v d := by
  cases h with
  | none => trivial
  | bool b => rfl
  | int i t => exact ⟨t, rfl⟩
  | str x t => exact ⟨t, rfl⟩
  | ty n => rfl
  | fn a => rfl
  | bi n => rfl
  | tup a b c => exact ⟨_, _, _, rfl, a, b, c⟩
  | lst a b c => exact ⟨_, _, _, rfl, a, b, c⟩
  | dct a b c d e => exact ⟨_, _, _, rfl, a, b, c, d, e⟩
  | itm a b => exact ⟨_, _, rfl, a, b⟩
  | vls a b => exact ⟨_, _, rfl, a, b⟩
  | rng a => exact ⟨_, _, _, _, rfl, a⟩
  | slc a b c => exact ⟨_, _, _, rfl, a, b, c⟩
theorem Is.int_inv {v : Value} {i : Int} (h : Is hs Z v (.int i)) : ∃ t, v = .int i t := h.inv
theorem Is.str_inv {v : Value} {x : Str} (h : Is hs Z v (.str x)) : ∃ t, v = .str x t := h.inv
theorem Is.bool_inv {v : Value} {b : Bool} (h : Is hs Z v (.bool b)) : v = .bool b := h.inv
theorem Is.ty_inv {v : Value} {n : String} (h : Is hs Z v (.ty n)) : v = .type n := h.inv
theorem Is.fn_inv {v : Value} {a : Addr} (h : Is hs Z v (.fn a)) : v = .ref a := h.inv
theorem Is.bi_inv {v : Value} {n : String} (h : Is hs Z v (.bi n)) : v = .builtin n := h.inv
theorem Is.lst_inv {v : Value} {ds : List D} (h : Is hs Z v (.lst ds)) : ∃ a vs n, v = .ref a ∧ Z a = some (lstO vs n) ∧ vs.length ≤ sizeLine ∧ IsAll hs Z vs ds := h.inv
theorem Is.tup_inv {v : Value} {ds : List D} (h : Is hs Z v (.tup ds)) : ∃ a vs n, v = .ref a ∧ Z a = some (tupO vs n) ∧ vs.length ≤ sizeLine ∧ IsAll hs Z vs ds := h.inv
theorem Is.dct_inv {v : Value} {kds : List (Str × D)} (h : Is hs Z v (.dct kds)) : ∃ a es n, v = .ref a ∧ Z a = some (dctO es n) ∧ (a == sysModules) = false ∧ es.length ≤ sizeLine ∧ IsEnts hs Z es kds ∧ (kds.map (·.1)).Nodup := h.inv
theorem Is.dct_ref {a : Addr} {kds : List (Str × D)} (h : Is hs Z (.ref a) (.dct kds)) : ∃ es n, Z a = some (dctO es n) ∧ (a == sysModules) = false ∧ es.length ≤ sizeLine ∧ IsEnts hs Z es kds ∧ (kds.map (·.1)).Nodup := by
  obtain ⟨_, _, _, q, r⟩ := h.dct_inv
  cases q
  exact ⟨_, _, r⟩
theorem Is.itm_inv {v : Value} {kds : List (Str × D)} (h : Is hs Z v (.itm kds)) : ∃ u a, v = .ref u ∧ Z u = some { cls := .type "dict_items", data := .fields #[.ref a] } ∧ Is hs Z (.ref a) (.dct kds) := h.inv
theorem Is.vls_inv {v : Value} {kds : List (Str × D)} (h : Is hs Z v (.vls kds)) : ∃ u a, v = .ref u ∧ Z u = some { cls := .type "dict_values", data := .fields #[.ref a] } ∧ Is hs Z (.ref a) (.dct kds) := h.inv
theorem Is.rng_inv {v : Value} {k : Nat} (h : Is hs Z v (.rng k)) : ∃ a t u x, v = .ref a ∧ Z a = some { cls := .type "range", data := .fields #[.int 0 t, .int k u, .int 1 x] } := h.inv
theorem Is.slc_inv {v : Value} {lo hi : Option Int} (h : Is hs Z v (.slc lo hi)) : ∃ a vl vu, v = .ref a ∧ Z a = some { cls := .type "slice", dict := Option.none, data := .fields #[vl, vu, .none], slots := #[] } ∧ IsPart vl lo ∧ IsPart vu hi := h.inv
theorem IsAll.one_inv {vs : List Value} {d : D} (h : IsAll hs Z vs [d]) : ∃ v, vs = [v] ∧ Is hs Z v d := by cases h with | cons a b => cases b; exact ⟨_, rfl, a⟩
theorem IsAll.two_inv {vs : List Value} {d e : D} (h : IsAll hs Z vs [d, e]) : ∃ v u, vs = [v, u] ∧ Is hs Z v d ∧ Is hs Z u e := by cases h with | cons a b => obtain ⟨u, rfl, c⟩ := b.one_inv; exact ⟨_, _, rfl, a, c⟩
end

/-! the world -/
/-- the table of a code's own blocks, empty at first: the only kind of cell of the start that may grow -/
abbrev tbo (ps : Array Value) : Obj := { cls := .none, data := .fields ps }
def Cur (h₀ h : Heap) (a : Addr) (o : Obj) : Prop := h.get? a = some o ∨ (isCodeTable h₀ a ∧ o = tbo #[] ∧ ∃ more : Array Value, h.get? a = some (tbo more) ∧ TriplesOk more.toList)
theorem Cur.keep {h₀ h h' : Heap} {a : Addr} {o : Obj} (x : Cur h₀ h a o) (hk : ∀ o', h.get? a = some o' → h'.get? a = some o') : Cur h₀ h' a o := by
  rcases x with x | ⟨t, e, more, x, y⟩
  · exact .inl (hk _ x)
  · exact .inr ⟨t, e, more, hk _ x, y⟩
theorem Cur.lt {h₀ h : Heap} {a : Addr} {o : Obj} (x : Cur h₀ h a o) : a < h.objs.size := by
  rcases x with x | ⟨t, e, more, x, y⟩ <;> exact Heap.lt_size x
theorem Cur.get {h₀ h : Heap} {a : Addr} {o : Obj} (x : Cur h₀ h a o) (hn : o ≠ tbo #[] := by intro q; cases q) : h.get? a = some o := by
  rcases x with x | ⟨t, e, _⟩
  · exact x
  · exact (hn e).elim
def FX (Z : Fz) (h : Heap) : Prop := ∀ a o, Z a = some o → o ≠ tbo #[] → h.get? a = some o
structure Wd (s₀ : Shared) (Z R : Fz) (s : Shared) : Prop where
  base : s₀.heap.NoLimit ∧ ∀ a o, s₀.heap.get? a = some o → Z a = some o
  cur : ∀ a o, Z a = some o → Cur s₀.heap s.heap a o
  rest : FIn R s.heap
  off : ∀ a o, R a = some o → Z a = none
  os : s.os = s₀.os
  bare : AllBare s.gens

structure Ok (n : Nat) (A : Around) : Prop where
  handled : A.handled = none
  depth : A.depth + n ≤ 400
  units : A.units + 20 * n ≤ 1000

section
variable {s₀ s : Shared} {Z R : Fz}
theorem Wd.none_of_ge (W : Wd s₀ Z R s) {a : Addr} (h : s.heap.objs.size ≤ a) : Z a = none ∧ R a = none := by
  constructor
  · cases e : Z a with
    | none => rfl
    | some o => exact absurd (W.cur _ _ e).lt (Nat.not_lt.mpr h)
  · cases e : R a with
    | none => rfl
    | some o => exact absurd (Heap.lt_size (W.rest _ _ e)) (Nat.not_lt.mpr h)
theorem Wd.grow (W : Wd s₀ Z R s) {h' : Heap} {tk : Nat} (hk : ∀ b o, s.heap.get? b = some o → h'.get? b = some o) : Wd s₀ Z R { s with heap := h', toks := tk } :=
  ⟨W.base, fun a o e => (W.cur a o e).keep (hk a), fun a o e => hk a o (W.rest a o e), W.off, W.os, W.bare⟩
theorem Wd.tok (W : Wd s₀ Z R s) (tk : Nat) : Wd s₀ Z R { s with toks := tk } := ⟨W.base, W.cur, W.rest, W.off, W.os, W.bare⟩
/-- cells that neither Z nor R hold may change -/
theorem Wd.but (W : Wd s₀ Z R s) {h' : Heap} {tk : Nat} (p : Addr → Prop) (hp : ∀ a, p a → Z a = none ∧ R a = none) (hk : ∀ b o, ¬ p b → s.heap.get? b = some o → h'.get? b = some o) : Wd s₀ Z R { s with heap := h', toks := tk } :=
  ⟨W.base, fun a o e => (W.cur a o e).keep fun o' e' => hk a o' (fun q => by rw [(hp a q).1] at e; cases e) e', fun a o e => hk a o (fun q => by rw [(hp a q).2] at e; cases e) (W.rest a o e), W.off, W.os, W.bare⟩
theorem Wd.addZ (W : Wd s₀ Z R s) {a : Addr} {o : Obj} (hz : Z a = none) (hr : R a = none) (ho : s.heap.get? a = some o) : Wd s₀ (fset Z a o) R s := by
  refine ⟨⟨W.base.1, fun b o' e => fle_fset hz _ _ (W.base.2 b o' e)⟩, fun b o' e => ?_, W.rest, fun b o' e => ?_, W.os, W.bare⟩
  · by_cases hb : b = a
    · subst hb; rw [fset_self] at e; cases e; exact .inl ho
    · rw [fset_ne hb] at e; exact W.cur b o' e
  · by_cases hb : b = a
    · subst hb; rw [hr] at e; cases e
    · rw [fset_ne hb]; exact W.off b o' e
theorem Wd.push (W : Wd s₀ Z R s) (o : Obj) (hf : o.isFreed = false) : Wd s₀ (fset Z s.heap.objs.size o) R { s with heap := s.heap.push o } :=
  have h := W.none_of_ge (Nat.le_refl _)
  (W.grow (h' := s.heap.push o) (tk := s.toks) fun _ _ e => Heap.get?_push_of_some _ e).addZ h.1 h.2 (Heap.get?_push_size _ hf)
theorem Wd.subR (W : Wd s₀ Z R s) {R' : Fz} (h : FLe R' R) : Wd s₀ Z R' s := ⟨W.base, W.cur, fun a o e => W.rest a o (h a o e), fun a o e => W.off a o (h a o e), W.os, W.bare⟩
theorem Wd.addR (W : Wd s₀ Z R s) {a : Addr} {o : Obj} (hz : Z a = none) (ho : s.heap.get? a = some o) : Wd s₀ Z (fset R a o) s := by
  refine ⟨W.base, W.cur, fun b o' e => ?_, fun b o' e => ?_, W.os, W.bare⟩
  · by_cases hb : b = a
    · subst hb; rw [fset_self] at e; cases e; exact ho
    · rw [fset_ne hb] at e; exact W.rest b o' e
  · by_cases hb : b = a
    · subst hb; exact hz
    · rw [fset_ne hb] at e; exact W.off b o' e
theorem Wd.frz (W : Wd s₀ Z R s) (a : Addr) (o : Obj) (e : Z a = some o) (hn : o ≠ tbo #[] := by intro q; cases q) : s.heap.get? a = some o := (W.cur a o e).get hn
theorem Wd.fx (W : Wd s₀ Z R s) : FX Z s.heap := fun a o e hn => (W.cur a o e).get hn
theorem Wd.ns (W : Wd s₀ Z R s) {a : Addr} {m : Str → Option Value} (h : s₀.heap.Ns a m) : s.heap.Ns a m := by
  obtain ⟨o, es, ep, e, hd, r⟩ := h
  exact ⟨o, es, ep, W.frz _ _ (W.base.2 _ _ e) (fun q => by rw [q] at hd; cases hd), hd, r⟩
theorem Wd.nolim (W : Wd s₀ Z R s) : s.heap.NoLimit := let ⟨m, h, e⟩ := W.base.1; ⟨m, W.ns h, e⟩
theorem Wd.codeRec (W : Wd s₀ Z R s) {cd : Value} {q : Str} (x : s₀.heap.CodeRec cd q) : s.heap.CodeRec cd q := by
  obtain ⟨c, o, vs, t, e, g, hd, h1⟩ := x
  exact ⟨c, o, vs, t, e, W.frz _ _ (W.base.2 _ _ g) (fun q => by rw [q] at hd; cases hd; simp at h1), hd, h1⟩
theorem Wd.low (W : Wd s₀ Z R s) {a : Addr} (h : s.heap.objs.size ≤ a) : (a == sysModules) = false := by
  have := modules_low W.nolim
  exact beq_false_of_ne (Nat.ne_of_gt (Nat.lt_of_lt_of_le this h))
theorem Wd.keep0 (W : Wd s₀ Z R s) : ∀ b o, s₀.heap.get? b = some o → (hn : o ≠ tbo #[]) → s.heap.get? b = some o := fun b o e hn => W.frz b o (W.base.2 b o e) hn
end

/-! reading the store -/
def NsObj (o : Obj) (m : Str → Option Value) : Prop := ∃ es ep, o.data = .dict es ep ∧ StrKeys es ∧ ∀ name, nsFind es name = m name
theorem NsObj.ns {h : Heap} {L : Addr} {o : Obj} {m : Str → Option Value} (x : NsObj o m) (e : h.get? L = some o) : h.Ns L m := let ⟨es, ep, a, b, c⟩ := x; ⟨o, es, ep, e, a, b, c⟩
theorem nsObj_of {h : Heap} {L : Addr} {m : Str → Option Value} (x : h.Ns L m) : ∃ o, h.get? L = some o ∧ NsObj o m := let ⟨o, es, ep, e, a, b, c⟩ := x; ⟨o, e, es, ep, a, b, c⟩
theorem NsObj.fun {o : Obj} {m m' : Str → Option Value} (x : NsObj o m) (y : NsObj o m') : m = m' := by
  obtain ⟨es, ep, a, _, b⟩ := x
  obtain ⟨es', ep', a', _, b'⟩ := y
  rw [a] at a'
  cases a'
  funext n
  rw [← b, ← b']

def Slot' (env : Env) (R : Fz) (x : Str) (v : Value) : Prop :=
  (env.kindOf x = some .local ∧ ∃ o m, R env.locals = some o ∧ NsObj o m ∧ m x = some v) ∨
  ((env.kindOf x = some .cell ∨ env.kindOf x = some .free) ∧ ∃ c o, env.cells.lookup x = some c ∧ R c = some o ∧ o.data = .cell (some v))
theorem Slot'.fun {env : Env} {R : Fz} {x : Str} {v v' : Value} (a : Slot' env R x v) (b : Slot' env R x v') : v = v' := by
  rcases a with ⟨k, o, m, h1, h2, h3⟩ | ⟨k, c, o, h1, h2, h3⟩ <;> rcases b with ⟨k', o', m', h1', h2', h3'⟩ | ⟨k', c', o', h1', h2', h3'⟩
  · rw [h1] at h1'; cases h1'
    rw [h2.fun h2'] at h3; rw [h3] at h3'; cases h3'; rfl
  · rw [k] at k'; rcases k' with k' | k' <;> cases k'
  · rw [k'] at k; rcases k with k | k <;> cases k
  · rw [h1] at h1'; cases h1'
    rw [h2] at h2'; cases h2'
    rw [h3] at h3'; cases h3'; rfl
theorem Slot'.mono {env : Env} {R R' : Fz} (h : FLe R R') {x : Str} {v : Value} (a : Slot' env R x v) : Slot' env R' x v := by
  rcases a with ⟨k, o, m, h1, h2, h3⟩ | ⟨k, c, o, h1, h2, h3⟩
  · exact .inl ⟨k, o, m, h _ _ h1, h2, h3⟩
  · exact .inr ⟨k, c, o, h1, h _ _ h2, h3⟩

inductive OwnO (hs : Str → Int) (Z : Fz) (a : Addr) : Obj → D → Prop
  | lst {vs : List Value} {n : Nat} {ds : List D} : vs.length ≤ sizeLine → IsAll hs Z vs ds → OwnO hs Z a (lstO vs n) (.lst ds)
  | dct {es : List DictEntry} {n : Nat} {kds : List (Str × D)} : (a == sysModules) = false → es.length ≤ sizeLine → IsEnts hs Z es kds → (kds.map (·.1)).Nodup → OwnO hs Z a (dctO es n) (.dct kds)
theorem OwnO.mono {hs : Str → Int} {Z Z' : Fz} {a : Addr} (h : FLe Z Z') {o : Obj} {d : D} (x : OwnO hs Z a o d) : OwnO hs Z' a o d := by
  cases x with
  | lst a b => exact .lst a (b.mono h)
  | dct a b c d => exact .dct a b (c.mono h) d
theorem OwnO.is {hs : Str → Int} {Z : Fz} {a : Addr} {o : Obj} {d : D} (x : OwnO hs Z a o d) (e : Z a = some o) : Is hs Z (.ref a) d := by
  cases x with
  | lst a b => exact .lst e a b
  | dct a b c d => exact .dct e a b c d

def OwnAt (hs : Str → Int) (env : Env) (Z Y : Fz) (v : Value) (d : D) : Prop := ∃ a o, v = .ref a ∧ Y a = some o ∧ OwnO hs Z a o d ∧ a ≠ env.locals
def LvOk (hs : Str → Int) (env : Env) (Z Y : Fz) (v : Value) : LV → Prop
  | .val d => Is hs Z v d
  | .own d => OwnAt hs env Z Y v d
theorem LvOk.mono {hs : Str → Int} {env : Env} {Z Z' R R' : Fz} (h : FLe Z Z') (k : FLe R R') {v : Value} {lv : LV} (x : LvOk hs env Z R v lv) : LvOk hs env Z' R' v lv := by
  cases lv with
  | val d => exact Is.mono h x
  | own d => obtain ⟨a, o, e1, e2, e3, e4⟩ := x; exact ⟨a, o, e1, k _ _ e2, e3.mono h, e4⟩

def Rd (hs : Str → Int) (env : Env) (Z R : Fz) (σ : Sto) : Prop := ∀ x lv, σ.lookup x = some lv → ∃ v, Slot' env R x v ∧ LvOk hs env Z R v lv
theorem Rd.mono {hs : Str → Int} {env : Env} {Z Z' R R' : Fz} {σ : Sto} (x : Rd hs env Z R σ) (h : FLe Z Z') (k : FLe R R') : Rd hs env Z' R' σ :=
  fun n lv e => let ⟨v, a, b⟩ := x n lv e; ⟨v, a.mono k, b.mono h k⟩

abbrev hsOf (prog : Program) (w : World) : Str → Int := (strKind prog w).hash

def Post (prog : Program) (w : World) (s₀ : Shared) (Z R : Fz) (d : D) (v : Value) (s' : Shared) : Prop := ∃ Z', FLe Z Z' ∧ Wd s₀ Z' R s' ∧ Is (hsOf prog w) Z' v d
abbrev nope : Value → Shared → Prop := fun _ _ => False

structure EnvOk (env : Env) : Prop where
  fn : env.scope.kind = .function
  glob : env.globals = mainGlobals
  blt : env.builtins = builtinsNs

/-- a value tree t, under env with store σ, gives d -/
def Ev (prog : Program) (w : World) (s₀ : Shared) (n : Nat) (env : Env) (σ : Sto) (t : Sem Value) (d : D) : Prop :=
  ∀ A Z R s, Ok n A → Wd s₀ Z R s → Rd (hsOf prog w) env Z R σ → wpAny (model prog w) A t (Post prog w s₀ Z R d) nope s
def EvL (prog : Program) (w : World) (s₀ : Shared) (n : Nat) (env : Env) (σ : Sto) (t : Sem (List Value)) (ds : List D) : Prop :=
  ∀ A Z R s, Ok n A → Wd s₀ Z R s → Rd (hsOf prog w) env Z R σ → wpAny (model prog w) A t (fun vs s' => ∃ Z', FLe Z Z' ∧ Wd s₀ Z' R s' ∧ IsAll (hsOf prog w) Z' vs ds) nope s
def EvB (prog : Program) (w : World) (s₀ : Shared) (n : Nat) (env : Env) (σ : Sto) (t : Sem Bool) (b : Bool) : Prop :=
  ∀ A Z R s, Ok n A → Wd s₀ Z R s → Rd (hsOf prog w) env Z R σ → wpAny (model prog w) A t (fun c s' => c = b ∧ ∃ Z', FLe Z Z' ∧ Wd s₀ Z' R s') nope s
/-- an operation on given values -/
def Op (prog : Program) (w : World) (s₀ : Shared) (n : Nat) (ds : List D) (f : List Value → Sem Value) (d : D) : Prop :=
  ∀ A Z R s vs, Ok n A → Wd s₀ Z R s → IsAll (hsOf prog w) Z vs ds → wpAny (model prog w) A (f vs) (Post prog w s₀ Z R d) nope s

theorem Post.mono {prog : Program} {w : World} {s₀ : Shared} {Z Z' R : Fz} {d : D} (h : FLe Z Z') {v : Value} {s' : Shared} (x : Post prog w s₀ Z' R d v s') : Post prog w s₀ Z R d v s' :=
  let ⟨Z'', a, b, c⟩ := x; ⟨Z'', h.trans a, b, c⟩
theorem Post.here {prog : Program} {w : World} {s₀ : Shared} {Z R : Fz} {d : D} {v : Value} {s' : Shared} (W : Wd s₀ Z R s') (h : Is (hsOf prog w) Z v d) : Post prog w s₀ Z R d v s' := ⟨Z, .refl Z, W, h⟩
theorem noE {M : Model} {α : Type} {A : Around} {t : Sem α} {Q : α → Shared → Prop} {E : Value → Shared → Prop} {s : Shared} (h : wpAny M A t Q nope s) : wpAny M A t Q E s :=
  wpAny_mono h (fun _ _ x => x) fun _ _ x => x.elim

end Mine
namespace Mine
open PySem PySem.Calls PySem.W PyProof.Rows
variable {prog : Program} {w : World} {s₀ : Shared} {n : Nat} {env : Env} {σ : Sto}

theorem sz_lt {k : Nat} (h : k ≤ sizeLine) : (k : Int) < 2 ^ 63 := by rw [sizeLine_eq] at h; omega

/-! names, constants -/
theorem ev_int {i : Int} {k : Nat} {pos : Pos} : Ev prog w s₀ n env σ (eval (.Constant (.int i) k pos) env) (.int i) :=
  fun _ _ _ s _ W _ => wpAny_Constant_int (Post.here (W.tok _) (.int i _))
theorem ev_str {x : Str} {k : Nat} {pos : Pos} : Ev prog w s₀ n env σ (eval (.Constant (.str x) k pos) env) (.str x) :=
  fun _ _ _ s _ W _ => Constant_str (Post.here (W.tok _) (.str x _))
theorem ev_bool {b : Bool} {k : Nat} {pos : Pos} : Ev prog w s₀ n env σ (eval (.Constant (.bool b) k pos) env) (.bool b) :=
  fun _ _ _ s _ W _ => wpAny_pure (Post.here W (.bool b))
theorem ev_none {k : Nat} {pos : Pos} : Ev prog w s₀ n env σ (eval (.Constant .none k pos) env) .none :=
  fun _ _ _ s _ W _ => wpAny_pure (Post.here W .none)

theorem slot_load {R : Fz} {s : Shared} {A : Around} {x : Str} {v : Value} {Q : Value → Shared → Prop} {E : Value → Shared → Prop} (O : EnvOk env) (W : FIn R s.heap) (h : Slot' env R x v) (q : Q v s)
    (hd : (x == ("__classdict__" : Str)) = false) : wpAny (model prog w) A (loadName env x) Q E s := by
  rcases h with ⟨k, o, m, h1, h2, h3⟩ | ⟨k, c, o, h1, h2, h3⟩
  · exact wpAny_loadName_local O.fn k (h2.ns (W _ _ h1)) h3 q
  · rcases k with k | k
    · exact wpAny_loadName_cell O.fn k h1 ⟨o, W _ _ h2, h3⟩ q
    · exact wpAny_loadName_free O.fn k h1 ⟨o, W _ _ h2, h3⟩ q hd

theorem ev_name {x : Str} {d : D} {pos : Pos} (O : EnvOk env) (h : σ.lookup x = some (.val d)) (hd : (x == ("__debug__" : Str)) = false := by decide)
    (hc : (x == ("__classdict__" : Str)) = false := by decide) : Ev prog w s₀ n env σ (eval (.Name x pos) env) d := by
  intro A Z R s ok W S
  obtain ⟨v, a, b⟩ := S x _ h
  exact wpAny_Name (slot_load O W.rest a (Post.here W b) hc) hd

def GlobIs (s₀ : Shared) (x : Str) (v : Value) : Prop := ∃ mg, s₀.heap.Ns mainGlobals mg ∧ mg x = some v
def BltIs (s₀ : Shared) (x : Str) (v : Value) : Prop := ∃ mg mb, s₀.heap.Ns mainGlobals mg ∧ s₀.heap.Ns builtinsNs mb ∧ mg x = none ∧ mb x = some v
theorem ev_glob {x : Str} {a : Addr} {pos : Pos} (O : EnvOk env) (h : GlobIs s₀ x (.ref a)) (hk : env.kindOf x = some .globalImplicit) (hd : (x == ("__debug__" : Str)) = false := by decide) :
    Ev prog w s₀ n env σ (eval (.Name x pos) env) (.fn a) := by
  intro A Z R s ok W S
  obtain ⟨mg, h1, h2⟩ := h
  exact Name_function_global O.fn hk (loadGlobal_global (O.glob ▸ W.ns h1) h2 (Post.here W (.fn a))) hd
theorem ev_blt {x : Str} {v : Value} {d : D} {pos : Pos} (O : EnvOk env) (h : BltIs s₀ x v) (hv : ∀ Z, Is (hsOf prog w) Z v d) (hk : env.kindOf x = some .globalImplicit) (hd : (x == ("__debug__" : Str)) = false := by decide) :
    Ev prog w s₀ n env σ (eval (.Name x pos) env) d := by
  intro A Z R s ok W S
  obtain ⟨mg, mb, h1, h2, h3, h4⟩ := h
  exact Name_function_global O.fn hk (loadGlobal_builtin (O.glob ▸ W.ns h1) h3 (O.blt ▸ W.ns h2) h4 (Post.here W (hv Z))) hd

/-! operators -/
def Op1 (prog : Program) (w : World) (s₀ : Shared) (n : Nat) (f : Value → Sem Value) (d1 d : D) : Prop :=
  ∀ A Z R s a, Ok n A → Wd s₀ Z R s → Is (hsOf prog w) Z a d1 → wpAny (model prog w) A (f a) (Post prog w s₀ Z R d) nope s
def Op2 (prog : Program) (w : World) (s₀ : Shared) (n : Nat) (f : Value → Value → Sem Value) (d1 d2 d : D) : Prop :=
  ∀ A Z R s a b, Ok n A → Wd s₀ Z R s → Is (hsOf prog w) Z a d1 → Is (hsOf prog w) Z b d2 → wpAny (model prog w) A (f a b) (Post prog w s₀ Z R d) nope s
def Tru (prog : Program) (w : World) (s₀ : Shared) (n : Nat) (d : D) (b : Bool) : Prop :=
  ∀ A Z R s v, Ok n A → Wd s₀ Z R s → Is (hsOf prog w) Z v d → wpAny (model prog w) A (truthy v) (fun c s' => c = b ∧ Wd s₀ Z R s') nope s

theorem ev_binop {l op r pos} {d1 d2 d : D} (hl : Ev prog w s₀ n env σ (eval l env) d1) (hr : Ev prog w s₀ n env σ (eval r env) d2) (ho : Op2 prog w s₀ n (binaryOp op) d1 d2 d) :
    Ev prog w s₀ n env σ (eval (.BinOp l op r pos) env) d := by
  intro A Z R s ok W S
  refine wpAny_BinOp (wpAny_mono (hl A Z R s ok W S) ?_ fun _ _ x => x)
  rintro a s1 ⟨Z1, l1, W1, i1⟩
  refine wpAny_mono (hr A Z1 R s1 ok W1 (S.mono l1 (.refl _))) ?_ fun _ _ x => x
  rintro b s2 ⟨Z2, l2, W2, i2⟩
  exact wpAny_mono (ho A Z2 R s2 a b ok W2 (i1.mono l2) i2) (fun _ _ p => p.mono (l1.trans l2)) fun _ _ x => x
theorem ev_compare {l op r pos} {d1 d2 d : D} (hl : Ev prog w s₀ n env σ (eval l env) d1) (hr : Ev prog w s₀ n env σ (eval r env) d2) (ho : Op2 prog w s₀ n (compareOp op) d1 d2 d)
    (hm : behindInMarks op r = false := by with_unfolding_all rfl) : Ev prog w s₀ n env σ (eval (.Compare l [op] [r] pos) env) d := by
  intro A Z R s ok W S
  refine wpAny_Compare1 (wpAny_mono (hl A Z R s ok W S) ?_ fun _ _ x => x) hm
  rintro a s1 ⟨Z1, l1, W1, i1⟩
  refine wpAny_mono (hr A Z1 R s1 ok W1 (S.mono l1 (.refl _))) ?_ fun _ _ x => x
  rintro b s2 ⟨Z2, l2, W2, i2⟩
  exact wpAny_mono (ho A Z2 R s2 a b ok W2 (i1.mono l2) i2) (fun _ _ p => p.mono (l1.trans l2)) fun _ _ x => x
theorem ev_unary {op x pos} {d1 d : D} (hx : Ev prog w s₀ n env σ (eval x env) d1) (ho : Op1 prog w s₀ n (unaryOp op) d1 d) : Ev prog w s₀ n env σ (eval (.UnaryOp op x pos) env) d := by
  intro A Z R s ok W S
  show wpAny _ A (do let v ← eval x env; standAt pos; holding [v] (unaryOp op v)) _ _ _
  refine wpAny_bind (wpAny_mono (hx A Z R s ok W S) ?_ fun _ _ x => x)
  rintro a s1 ⟨Z1, l1, W1, i1⟩
  exact wpAny_bind (wpAny_standAt (wpAny_holding (wpAny_mono (ho A Z1 R s1 a ok W1 i1) (fun _ _ p => p.mono l1) fun _ _ x => x)))
theorem ev_ifexp_true {t b o pos} {d : D} (ht : EvB prog w s₀ n env σ (isTrue t env (eval t env)) true) (hb : Ev prog w s₀ n env σ (eval b env) d) : Ev prog w s₀ n env σ (eval (.IfExp t b o pos) env) d := by
  intro A Z R s ok W S
  show wpAny _ A (do if ← isTrue t env (eval t env) then eval b env else eval o env) _ _ _
  refine wpAny_bind (wpAny_mono (ht A Z R s ok W S) ?_ fun _ _ x => x)
  rintro c s1 ⟨rfl, Z1, l1, W1⟩
  exact wpAny_mono (hb A Z1 R s1 ok W1 (S.mono l1 (.refl _))) (fun _ _ p => p.mono l1) fun _ _ x => x
theorem ev_ifexp_false {t b o pos} {d : D} (ht : EvB prog w s₀ n env σ (isTrue t env (eval t env)) false) (hb : Ev prog w s₀ n env σ (eval o env) d) : Ev prog w s₀ n env σ (eval (.IfExp t b o pos) env) d := by
  intro A Z R s ok W S
  show wpAny _ A (do if ← isTrue t env (eval t env) then eval b env else eval o env) _ _ _
  refine wpAny_bind (wpAny_mono (ht A Z R s ok W S) ?_ fun _ _ x => x)
  rintro c s1 ⟨rfl, Z1, l1, W1⟩
  exact wpAny_mono (hb A Z1 R s1 ok W1 (S.mono l1 (.refl _))) (fun _ _ p => p.mono l1) fun _ _ x => x
theorem ev_or2_left {a b pos} {d : D} (ha : Ev prog w s₀ n env σ (eval a env) d) (ht : Tru prog w s₀ n d true) : Ev prog w s₀ n env σ (eval (.BoolOp .Or [a, b] pos) env) d := by
  intro A Z R s ok W S
  show wpAny _ A (do
    let v ← eval a env
    standAt pos
    let t ← holding [v] (truthy v)
    match BoolOp.Or, t with
    | .And, false | .Or, true => pure v
    | _, _ => boolOp pos .Or [eval b env]) _ _ _
  refine wpAny_bind (wpAny_mono (ha A Z R s ok W S) ?_ fun _ _ x => x)
  rintro v s1 ⟨Z1, l1, W1, i1⟩
  refine wpAny_bind (wpAny_standAt (wpAny_bind (wpAny_holding (wpAny_mono (ht A Z1 R s1 v ok W1 i1) ?_ fun _ _ x => x))))
  rintro c s2 ⟨rfl, W2⟩
  exact wpAny_pure ⟨Z1, l1, W2, i1⟩
theorem ev_or2_right {a b pos} {d d' : D} (ha : Ev prog w s₀ n env σ (eval a env) d') (ht : Tru prog w s₀ n d' false) (hb : Ev prog w s₀ n env σ (eval b env) d) : Ev prog w s₀ n env σ (eval (.BoolOp .Or [a, b] pos) env) d := by
  intro A Z R s ok W S
  show wpAny _ A (do
    let v ← eval a env
    standAt pos
    let t ← holding [v] (truthy v)
    match BoolOp.Or, t with
    | .And, false | .Or, true => pure v
    | _, _ => boolOp pos .Or [eval b env]) _ _ _
  refine wpAny_bind (wpAny_mono (ha A Z R s ok W S) ?_ fun _ _ x => x)
  rintro v s1 ⟨Z1, l1, W1, i1⟩
  refine wpAny_bind (wpAny_standAt (wpAny_bind (wpAny_holding (wpAny_mono (ht A Z1 R s1 v ok W1 i1) ?_ fun _ _ x => x))))
  rintro c s2 ⟨rfl, W2⟩
  exact wpAny_mono (hb A Z1 R s2 ok W2 (S.mono l1 (.refl _))) (fun _ _ p => p.mono l1) fun _ _ x => x

/-! tests -/
theorem evB_compare {l op r pos whole} {d1 d2 : D} {b : Bool} (hl : Ev prog w s₀ n env σ (eval l env) d1) (hr : Ev prog w s₀ n env σ (eval r env) d2) (ho : Op2 prog w s₀ n (compareOp op) d1 d2 (.bool b))
    (hm : behindInMarks op r = false := by with_unfolding_all rfl) : EvB prog w s₀ n env σ (isTrue (.Compare l [op] [r] pos) env whole) b := by
  intro A Z R s ok W S
  refine wpAny_isTrue_Compare1 (wpAny_mono (hl A Z R s ok W S) ?_ fun _ _ x => x) hm
  rintro a s1 ⟨Z1, l1, W1, i1⟩
  refine wpAny_mono (hr A Z1 R s1 ok W1 (S.mono l1 (.refl _))) ?_ fun _ _ x => x
  rintro b s2 ⟨Z2, l2, W2, i2⟩
  refine wpAny_mono (ho A Z2 R s2 a b ok W2 (i1.mono l2) i2) ?_ fun _ _ x => x
  rintro c s3 ⟨Z3, l3, W3, i3⟩
  cases i3
  exact wpAny_truthy_bool ⟨rfl, Z3, (l1.trans l2).trans l3, W3⟩
theorem evB_val {e : Expr} {d : D} {b : Bool} (he : isTrue e env (eval e env) = (do let v ← eval e env; standAt e.pos; holding [v] (truthy v))) (hv : Ev prog w s₀ n env σ (eval e env) d) (ht : Tru prog w s₀ n d b) :
    EvB prog w s₀ n env σ (isTrue e env (eval e env)) b := by
  intro A Z R s ok W S
  rw [he]
  refine wpAny_bind (wpAny_mono (hv A Z R s ok W S) ?_ fun _ _ x => x)
  rintro v s1 ⟨Z1, l1, W1, i1⟩
  refine wpAny_bind (wpAny_standAt (wpAny_holding (wpAny_mono (ht A Z1 R s1 v ok W1 i1) ?_ fun _ _ x => x)))
  rintro c s2 ⟨rfl, W2⟩
  exact ⟨rfl, Z1, l1, W2⟩
theorem evB_not {x pos whole} {b c : Bool} (h : EvB prog w s₀ n env σ (isTrue x env (eval x env)) b) (hc : c = !b) : EvB prog w s₀ n env σ (isTrue (.UnaryOp .Not x pos) env whole) c := by
  intro A Z R s ok W S
  show wpAny _ A (do return !(← isTrue x env (eval x env))) _ _ _
  refine wpAny_bind (wpAny_mono (h A Z R s ok W S) ?_ fun _ _ x => x)
  rintro v s1 ⟨rfl, Z1, l1, W1⟩
  exact wpAny_pure ⟨hc.symm, Z1, l1, W1⟩
theorem evB_bool {op vs pos whole} {b : Bool} (h : EvB prog w s₀ n env σ (allTrue op vs env) b) : EvB prog w s₀ n env σ (isTrue (.BoolOp op vs pos) env whole) b := h
theorem evB_nil {op : BoolOp} {b : Bool} (hb : b = (op == .And)) : EvB prog w s₀ n env σ (allTrue op [] env) b := by
  intro A Z R s ok W S
  show wpAny _ A (pure (op == .And)) _ _ _
  exact wpAny_pure ⟨hb.symm, Z, .refl _, W⟩
theorem evB_cons_stop {op : BoolOp} {x : Expr} {rest : List Expr} {b : Bool} (h : EvB prog w s₀ n env σ (isTrue x env (eval x env)) b) (hb : b = (op == .Or)) : EvB prog w s₀ n env σ (allTrue op (x :: rest) env) b := by
  intro A Z R s ok W S
  show wpAny _ A (do
    match op, ← isTrue x env (eval x env) with
    | .And, false => pure false
    | .Or, true => pure true
    | _, _ => allTrue op rest env) _ _ _
  refine wpAny_bind (wpAny_mono (h A Z R s ok W S) ?_ fun _ _ x => x)
  rintro v s1 ⟨rfl, Z1, l1, W1⟩
  cases op <;> cases hb <;> exact wpAny_pure ⟨rfl, Z1, l1, W1⟩
theorem evB_cons_go {op : BoolOp} {x : Expr} {rest : List Expr} {b c : Bool} (h : EvB prog w s₀ n env σ (isTrue x env (eval x env)) b) (hb : b = (op == .And)) (hr : EvB prog w s₀ n env σ (allTrue op rest env) c) :
    EvB prog w s₀ n env σ (allTrue op (x :: rest) env) c := by
  intro A Z R s ok W S
  show wpAny _ A (do
    match op, ← isTrue x env (eval x env) with
    | .And, false => pure false
    | .Or, true => pure true
    | _, _ => allTrue op rest env) _ _ _
  refine wpAny_bind (wpAny_mono (h A Z R s ok W S) ?_ fun _ _ x => x)
  rintro v s1 ⟨rfl, Z1, l1, W1⟩
  cases op <;> cases hb <;>
  · refine wpAny_mono (hr A Z1 R s1 ok W1 (S.mono l1 (.refl _))) ?_ fun _ _ x => x
    rintro c s2 ⟨rfl, Z2, l2, W2⟩
    exact ⟨rfl, Z2, l1.trans l2, W2⟩

/-! truth -/
theorem tru_bool {b : Bool} : Tru prog w s₀ n (.bool b) b := by intro A Z R s v ok W i; obtain rfl := i.bool_inv; exact wpAny_truthy_bool ⟨rfl, W⟩
theorem tru_int {i : Int} {b : Bool} (h : b = (i != 0)) : Tru prog w s₀ n (.int i) b := by intro A Z R s v ok W i; obtain ⟨_, rfl⟩ := i.int_inv; exact P.truthy_int ⟨h.symm, W⟩
theorem tru_str {x : Str} {b : Bool} (hz : x.length ≤ sizeLine) (h : b = (x.length != 0)) : Tru prog w s₀ n (.str x) b := by
  intro A Z R s v ok W i; obtain ⟨_, rfl⟩ := i.str_inv
  refine P.truthy_str (by have := sz_lt hz; omega) ⟨?_, W.tok _⟩
  subst h
  rcases Nat.eq_zero_or_pos x.length with e | e
  · rw [e]; rfl
  · rw [bne_iff_ne.mpr (by omega : (x.length : Int) ≠ 0), bne_iff_ne.mpr (by omega : x.length ≠ 0)]
theorem isEmpty_toArray {α : Type} (l : List α) : (!l.toArray.isEmpty) = (l.length != 0) := by cases l <;> simp
theorem tru_lst {ds : List D} {b : Bool} (h : b = (ds.length != 0)) : Tru prog w s₀ n (.lst ds) b := by
  intro A Z R s v ok W i
  obtain ⟨_, _, _, rfl, e, hz, ha⟩ := i.lst_inv
  ·
    refine wpAny_truthy_list (items := _) ⟨_, W.frz _ _ e, rfl, _, rfl⟩ (by rw [List.size_toArray]; exact sz_lt hz) ⟨?_, W.tok _⟩
    rw [isEmpty_toArray, ha.length]; exact h.symm
theorem tru_tup {ds : List D} {b : Bool} (h : b = (ds.length != 0)) : Tru prog w s₀ n (.tup ds) b := by
  intro A Z R s v ok W i
  obtain ⟨_, _, _, rfl, e, hz, ha⟩ := i.tup_inv
  ·
    refine truthy_tuple (items := _) ⟨_, W.frz _ _ e, rfl, _, rfl⟩ (by rw [List.size_toArray]; exact sz_lt hz) ⟨?_, W.tok _⟩
    rw [isEmpty_toArray, ha.length]; exact h.symm

/-! int and str operators -/
theorem op_add_int {a b : Int} : Op2 prog w s₀ n (binaryOp .Add) (.int a) (.int b) (.int (a + b)) := by intro A Z R s u v ok W i j; obtain ⟨_, rfl⟩ := i.int_inv; obtain ⟨_, rfl⟩ := j.int_inv; exact wpAny_add_int (Post.here (W.tok _) (.int _ _))
theorem op_iadd_int {a b : Int} : Op2 prog w s₀ n (inplaceOp .Add) (.int a) (.int b) (.int (a + b)) := by intro A Z R s u v ok W i j; obtain ⟨_, rfl⟩ := i.int_inv; obtain ⟨_, rfl⟩ := j.int_inv; exact wpAny_iadd_int (Post.here (W.tok _) (.int _ _))
theorem op_sub_int {a b : Int} : Op2 prog w s₀ n (binaryOp .Sub) (.int a) (.int b) (.int (a - b)) := by intro A Z R s u v ok W i j; obtain ⟨_, rfl⟩ := i.int_inv; obtain ⟨_, rfl⟩ := j.int_inv; exact P.sub_int (Post.here (W.tok _) (.int _ _))
theorem op_mod_int {a b : Int} (h : b ≠ 0) : Op2 prog w s₀ n (binaryOp .Mod) (.int a) (.int b) (.int (a.fmod b)) := by intro A Z R s u v ok W i j; obtain ⟨_, rfl⟩ := i.int_inv; obtain ⟨_, rfl⟩ := j.int_inv; exact mod_int' h (Post.here (W.tok _) (.int _ _))
theorem op_div_int {a b : Int} (h : b ≠ 0) (hb : b.natAbs < 1073741824) : Op2 prog w s₀ n (binaryOp .FloorDiv) (.int a) (.int b) (.int (a.fdiv b)) := by intro A Z R s u v ok W i j; obtain ⟨_, rfl⟩ := i.int_inv; obtain ⟨_, rfl⟩ := j.int_inv; exact floordiv_int h (Post.here (W.tok _) (.int _ _)) (.inl (PyProof.noPylong_small hb))
theorem op_neg_int {a : Int} : Op1 prog w s₀ n (unaryOp .USub) (.int a) (.int (-a)) := by intro A Z R s u ok W i; obtain ⟨_, rfl⟩ := i.int_inv; exact P.neg_int (Post.here (W.tok _) (.int _ _))
theorem op_eq_int {a b : Int} : Op2 prog w s₀ n (compareOp .Eq) (.int a) (.int b) (.bool (a == b)) := by intro A Z R s u v ok W i j; obtain ⟨_, rfl⟩ := i.int_inv; obtain ⟨_, rfl⟩ := j.int_inv; exact wpAny_eq_int (Post.here W (.bool _))
theorem op_ne_int {a b : Int} : Op2 prog w s₀ n (compareOp .NotEq) (.int a) (.int b) (.bool (a != b)) := by intro A Z R s u v ok W i j; obtain ⟨_, rfl⟩ := i.int_inv; obtain ⟨_, rfl⟩ := j.int_inv; exact P.ne_int (Post.here W (.bool _))
theorem op_gt_int {a b : Int} : Op2 prog w s₀ n (compareOp .Gt) (.int a) (.int b) (.bool (decide (a > b))) := by intro A Z R s u v ok W i j; obtain ⟨_, rfl⟩ := i.int_inv; obtain ⟨_, rfl⟩ := j.int_inv; exact P.gt_int (Post.here W (.bool _))
theorem op_ge_int {a b : Int} : Op2 prog w s₀ n (compareOp .GtE) (.int a) (.int b) (.bool (decide (a ≥ b))) := by intro A Z R s u v ok W i j; obtain ⟨_, rfl⟩ := i.int_inv; obtain ⟨_, rfl⟩ := j.int_inv; exact P.ge_int (Post.here W (.bool _))
theorem beq_cps (x y : Str) : (x.cps.toList == y.cps.toList) = decide (x = y) := by
  by_cases h : x = y
  · subst h; simp
  · have : x.cps.toList ≠ y.cps.toList := fun e => h (by cases x; cases y; simp only [Str.mk.injEq]; exact Array.toList_inj.mp e)
    rw [decide_eq_false h]; exact beq_eq_false_iff_ne.mpr this
theorem op_eq_str {a b : Str} : Op2 prog w s₀ n (compareOp .Eq) (.str a) (.str b) (.bool (decide (a = b))) := by intro A Z R s u v ok W i j; obtain ⟨_, rfl⟩ := i.str_inv; obtain ⟨_, rfl⟩ := j.str_inv; exact P.eq_str (Post.here W (beq_cps a b ▸ .bool _))
theorem op_ne_str {a b : Str} : Op2 prog w s₀ n (compareOp .NotEq) (.str a) (.str b) (.bool (decide (a ≠ b))) := by
  intro A Z R s u v ok W i j; obtain ⟨_, rfl⟩ := i.str_inv; obtain ⟨_, rfl⟩ := j.str_inv
  refine P.ne_str (Post.here W ?_)
  have : (a.cps.toList != b.cps.toList) = decide (a ≠ b) := by rw [decide_not, ← beq_cps]; rfl
  rw [this]; exact .bool _
end Mine
namespace Mine
open PySem PySem.Calls PySem.W PyProof.Rows
variable {prog : Program} {w : World} {s₀ : Shared} {n : Nat} {env : Env} {σ : Sto}

/-! argument lists -/
theorem evl_nil {pos : Pos} : EvL prog w s₀ n env σ (spliced (backTo pos (starEach [] env))) [] :=
  fun _ _ _ _ _ W _ => spliced_nil ⟨_, .refl _, W, .nil⟩
theorem evl_cons {pos : Pos} {e : Expr} {rest : List Expr} {d : D} {ds : List D} (hd : Ev prog w s₀ n env σ (eval e env) d) (hr : EvL prog w s₀ n env σ (spliced (backTo pos (starEach rest env))) ds)
    (he : backTo pos (starEach (e :: rest) env) = (false, eval e env) :: backTo pos (starEach rest env) := by rfl) : EvL prog w s₀ n env σ (spliced (backTo pos (starEach (e :: rest) env))) (d :: ds) := by
  intro A Z R s ok W S
  rw [he]
  refine spliced_cons (wpAny_mono (hd A Z R s ok W S) ?_ fun _ _ x => x)
  rintro v s1 ⟨Z1, l1, W1, i1⟩
  refine wpAny_mono (hr A Z1 R s1 ok W1 (S.mono l1 (.refl _))) ?_ fun _ _ x => x
  rintro vs s2 ⟨Z2, l2, W2, i2⟩
  exact ⟨Z2, l1.trans l2, W2, .cons (i1.mono l2) i2⟩

/-! displays -/
theorem newSeq {s : Shared} {A : Around} {Z R : Fz} {vs : List Value} {d : D} (o : Obj) (W : Wd s₀ Z R s) (hf : o.isFreed = false) (hi : ∀ Z', FLe Z Z' → Z' s.heap.objs.size = some o → Is (hsOf prog w) Z' (.ref s.heap.objs.size) d) :
    Post prog w s₀ Z R d (.ref s.heap.objs.size) { s with heap := s.heap.push o } :=
  ⟨_, fle_fset (W.none_of_ge (Nat.le_refl _)).1, W.push o hf, hi _ (fle_fset (W.none_of_ge (Nat.le_refl _)).1) fset_self⟩
theorem new_tup {s : Shared} {A : Around} {Z R : Fz} {vs : List Value} {ds : List D} (W : Wd s₀ Z R s) (h : IsAll (hsOf prog w) Z vs ds) (hz : ds.length ≤ sizeLine) :
    wpAny (model prog w) A (newTuple vs) (Post prog w s₀ Z R (.tup ds)) nope s := by
  have hv : vs.length ≤ sizeLine := h.length ▸ hz
  exact wpAny_newObj_type (newSeq (A := A) (vs := vs) _ W rfl fun Z' l e => .tup e hv (h.mono l)) (by show vs.toArray.size ≤ sizeLine; rw [List.size_toArray]; exact hv)
theorem new_lst {s : Shared} {A : Around} {Z R : Fz} {vs : List Value} {ds : List D} (W : Wd s₀ Z R s) (h : IsAll (hsOf prog w) Z vs ds) (hz : ds.length ≤ sizeLine) :
    wpAny (model prog w) A (newList vs) (Post prog w s₀ Z R (.lst ds)) nope s := by
  have hv : vs.length ≤ sizeLine := h.length ▸ hz
  exact wpAny_newObj_type (newSeq (A := A) (vs := vs) _ W rfl fun Z' l e => .lst e hv (h.mono l)) (by show vs.toArray.size ≤ sizeLine; rw [List.size_toArray]; exact hv)
theorem ev_tuple {es : List Expr} {k : Nat} {pos : Pos} {ds : List D} (h : EvL prog w s₀ n env σ (spliced (backTo pos (starEach es env))) ds) (hz : ds.length ≤ sizeLine := by decide) :
    Ev prog w s₀ n env σ (eval (.Tuple es k pos) env) (.tup ds) := by
  intro A Z R s ok W S
  refine Tuple_ (wpAny_mono (h A Z R s ok W S) ?_ fun _ _ x => x)
  rintro vs s1 ⟨Z1, l1, W1, i1⟩
  exact wpAny_mono (new_tup W1 i1 hz) (fun _ _ p => p.mono l1) fun _ _ x => x
theorem ev_list {es : List Expr} {pos : Pos} {ds : List D} (h : EvL prog w s₀ n env σ (spliced (backTo pos (starEach es env))) ds) (hz : ds.length ≤ sizeLine := by decide) :
    Ev prog w s₀ n env σ (eval (.List es pos) env) (.lst ds) := by
  intro A Z R s ok W S
  refine List_ (wpAny_mono (h A Z R s ok W S) ?_ fun _ _ x => x)
  rintro vs s1 ⟨Z1, l1, W1, i1⟩
  exact wpAny_mono (new_lst W1 i1 hz) (fun _ _ p => p.mono l1) fun _ _ x => x

/-! calls -/
theorem evl_args {f : Value} {trees : List (Bool × Sem Value)} {ds : List D} (hpl : trees.any (·.1) = false) (h : EvL prog w s₀ n env σ (spliced trees) ds) {A : Around} {Z R : Fz} {s : Shared} (ok : Ok n A) (W : Wd s₀ Z R s) (S : Rd (hsOf prog w) env Z R σ)
    {Q : Args → Shared → Prop} (q : ∀ vs s' Z', FLe Z Z' → Wd s₀ Z' R s' → IsAll (hsOf prog w) Z' vs ds → Q ⟨vs, []⟩ s') : wpAny (model prog w) A (evalArgs f true trees []) Q nope s := by
  have key := wpAny_mono (h A Z R s ok W S) (Q' := fun vs s' => Q ⟨vs, []⟩ s') (fun vs s' ⟨Z', l, W', i⟩ => q vs s' Z' l W' i) (fun _ _ x => x)
  cases trees with
  | nil =>
    unfold evalArgs
    show wpAny _ A (spliced [] >>= _) Q _ s
    refine wpAny_bind (wpAny_mono key (fun vs s' h' => ?_) fun _ _ x => x)
    refine wpAny_holding ?_
    exact wpAny_bind (wpAny_pure (wpAny_bind (wpAny_pure (wpAny_pure h'))))
  | cons t r =>
    obtain ⟨b, x⟩ := t
    have hb : b = false := by
      simp only [List.any_cons, Bool.or_eq_false_iff] at hpl
      exact hpl.1
    subst hb
    exact evalArgs_plain key

def IsFn (s₀ : Shared) (a : Addr) : Prop := ∃ o fd, s₀.heap.get? a = some o ∧ o.data = .func fd
/-- the call of a value -/
def CallT (prog : Program) (w : World) (s₀ : Shared) (n : Nat) (f : Value) (ds : List D) (d : D) : Prop :=
  ∀ A Z R s vs, Ok n A → Wd s₀ Z R s → IsAll (hsOf prog w) Z vs ds → wpAny (model prog w) A (call f vs []) (Post prog w s₀ Z R d) nope s
theorem trees_plain {pos : Pos} {env : Env} : ∀ {es : List Expr}, (starEach es env).any (·.1) = false → (backTo pos (starEach es env)).any (·.1) = false := by
  intro es h
  unfold backTo
  rw [List.any_map]
  exact h
theorem ev_call_fn {func : Expr} {args : List Expr} {pos : Pos} {a : Addr} {ds : List D} {d : D} (hf : Ev prog w s₀ n env σ (eval func env) (.fn a)) (ha : EvL prog w s₀ n env σ (spliced (backTo pos (starEach args env))) ds)
    (hfn : IsFn s₀ a) (hc : CallT prog w s₀ n (.ref a) ds d)
    (hev : eval (.Call func args [] pos) env = (do callWith pos (← eval func env) [] (backTo pos (starEach args env)) (backToKw pos (keywordEach [] env))) := by rfl)
    (hpl : (starEach args env).any (·.1) = false := by rfl) : Ev prog w s₀ n env σ (eval (.Call func args [] pos) env) d := by
  intro A Z R s ok W S
  rw [hev]
  refine wpAny_bind (wpAny_mono (hf A Z R s ok W S) ?_ fun _ _ x => x)
  rintro fv s1 ⟨Z1, l1, W1, i1⟩
  obtain rfl := i1.fn_inv
  obtain ⟨o, fd, ho, hd⟩ := hfn
  show wpAny _ A (callWith pos (.ref a) [] (backTo pos (starEach args env)) []) _ _ s1
  refine callWith_function (o := o) (fd := fd) (evl_args (trees_plain hpl) ha ok W1 (S.mono l1 (.refl _)) fun vs s2 Z2 l2 W2 i2 => ⟨⟨W2.keep0 _ _ ho (fun q => by rw [q] at hd; cases hd), hd⟩, ?_⟩)
  exact wpAny_mono (hc A Z2 R s2 vs ok W2 i2) (fun _ _ p => p.mono (l1.trans l2)) fun _ _ x => x
theorem ev_call_bi {func : Expr} {args : List Expr} {pos : Pos} {id : String} {ds : List D} {d : D} (hf : Ev prog w s₀ n env σ (eval func env) (.bi id)) (ha : EvL prog w s₀ n env σ (spliced (backTo pos (starEach args env))) ds)
    (hc : CallT prog w s₀ n (.builtin id) ds d)
    (hev : eval (.Call func args [] pos) env = (do callWith pos (← eval func env) [] (backTo pos (starEach args env)) (backToKw pos (keywordEach [] env))) := by rfl)
    (hpl : (starEach args env).any (·.1) = false := by rfl) : Ev prog w s₀ n env σ (eval (.Call func args [] pos) env) d := by
  intro A Z R s ok W S
  rw [hev]
  refine wpAny_bind (wpAny_mono (hf A Z R s ok W S) ?_ fun _ _ x => x)
  rintro fv s1 ⟨Z1, l1, W1, i1⟩
  obtain rfl := i1.bi_inv
  show wpAny _ A (callWith pos (.builtin id) [] (backTo pos (starEach args env)) []) _ _ s1
  refine callWith_builtin (trees_plain hpl) (evl_args (trees_plain hpl) ha ok W1 (S.mono l1 (.refl _)) fun vs s2 Z2 l2 W2 i2 => ?_)
  exact wpAny_mono (hc A Z2 R s2 vs ok W2 i2) (fun _ _ p => p.mono (l1.trans l2)) fun _ _ x => x
theorem callWith_type {A : Around} {E : Value → Shared → Prop} {s : Shared} {pos : Pos} {T : String} {args : List (Bool × Sem Value)} {Q : Value → Shared → Prop} (hplain : args.any (·.1) = false)
    (h : wpAny (model prog w) A (evalArgs (.type T) true args []) (fun a s₁ => wpAny (model prog w) A (call (.type T) a.pos a.kw) Q E s₁) E s) :
    wpAny (model prog w) A (callWith pos (.type T) [] args []) Q E s := by
  unfold callWith
  refine wpAny_bind (wpAny_holding (wpAny_mono h (fun a s₁ h₁ => wpAny_bind (wpAny_standAt ?_)) fun _ _ x => x))
  simp only [hplain, List.any_nil, Bool.or_false]
  refine wpAny_bind (wpAny_pure ?_)
  exact wpAny_bind (wpAny_mono h₁ (fun r s₂ hr => wpAny_bind (wpAny_holding (wpAny_point (wpAny_pure hr)))) fun _ _ x => x)
theorem ev_call_ty {func : Expr} {args : List Expr} {pos : Pos} {id : String} {ds : List D} {d : D} (hf : Ev prog w s₀ n env σ (eval func env) (.ty id)) (ha : EvL prog w s₀ n env σ (spliced (backTo pos (starEach args env))) ds)
    (hc : CallT prog w s₀ n (.type id) ds d)
    (hev : eval (.Call func args [] pos) env = (do callWith pos (← eval func env) [] (backTo pos (starEach args env)) (backToKw pos (keywordEach [] env))) := by rfl)
    (hpl : (starEach args env).any (·.1) = false := by rfl) : Ev prog w s₀ n env σ (eval (.Call func args [] pos) env) d := by
  intro A Z R s ok W S
  rw [hev]
  refine wpAny_bind (wpAny_mono (hf A Z R s ok W S) ?_ fun _ _ x => x)
  rintro fv s1 ⟨Z1, l1, W1, i1⟩
  obtain rfl := i1.ty_inv
  show wpAny _ A (callWith pos (.type id) [] (backTo pos (starEach args env)) []) _ _ s1
  refine callWith_type (trees_plain hpl) (evl_args (trees_plain hpl) ha ok W1 (S.mono l1 (.refl _)) fun vs s2 Z2 l2 W2 i2 => ?_)
  exact wpAny_mono (hc A Z2 R s2 vs ok W2 i2) (fun _ _ p => p.mono (l1.trans l2)) fun _ _ x => x

/-! methods -/
structure MethOk (T : String) (name : Str) (id : String) : Prop where
  attrs : PlainAttrs T
  slot : Slot T name id
  ty : typeOf (.builtin id) = pure (.type "method_descriptor")
def TyD : D → String → Prop
  | .str _, T => T = "str"
  | .lst _, T => T = "list"
  | .tup _, T => T = "tuple"
  | .dct _, T => T = "dict"
  | .int _, T => T = "int"
  | _, _ => False
theorem tyD {hs : Str → Int} {Z : Fz} {s : Shared} {v : Value} {d : D} {T : String} (hZ : FX Z s.heap) (i : Is hs Z v d) (t : TyD d T) : s.TypeIs v T ∧ ∀ a, v = .ref a → ∃ ob, s.heap.get? a = some ob ∧ ob.dict = none := by
  cases i with
  | str x t' => cases t; exact ⟨typeIs_str s x t', fun a e => nomatch e⟩
  | int x t' => cases t; exact ⟨typeIs_int s x t', fun a e => nomatch e⟩
  | lst e _ _ => cases t; exact ⟨⟨_, hZ _ _ e (by intro q; cases q), rfl⟩, fun a e' => by cases e'; exact ⟨_, hZ _ _ e (by intro q; cases q), rfl⟩⟩
  | tup e _ _ => cases t; exact ⟨⟨_, hZ _ _ e (by intro q; cases q), rfl⟩, fun a e' => by cases e'; exact ⟨_, hZ _ _ e (by intro q; cases q), rfl⟩⟩
  | dct e _ _ _ _ => cases t; exact ⟨⟨_, hZ _ _ e (by intro q; cases q), rfl⟩, fun a e' => by cases e'; exact ⟨_, hZ _ _ e (by intro q; cases q), rfl⟩⟩
  | _ => cases t
theorem ev_meth {o : Expr} {name : Str} {apos pos : Pos} {args : List Expr} {T id : String} {d1 : D} {ds : List D} {d : D} (mk : MethOk T name id) (ho : Ev prog w s₀ n env σ (eval o env) d1) (ht : TyD d1 T)
    (ha : EvL prog w s₀ n env σ (spliced (backTo pos (starEach args env))) ds) (hc : CallT prog w s₀ n (.builtin id) (d1 :: ds) d)
    (hbase : attributeBase o name env (eval o env) = eval o env := by rfl)
    (hfew : ((backTo pos (starEach args env)).all (fun x => !x.1) && (backToKw pos (keywordEach [] env)).all (fun x => x.1.isSome)
      && decide (args.length + ([] : List Keyword).length + (if ([] : List Keyword).isEmpty then 0 else 1) < 30)) = true := by rfl)
    (hline : (apos.endLine == pos.line) = true := by rfl)
    (hpl : (starEach args env).any (·.1) = false := by rfl) : Ev prog w s₀ n env σ (eval (.Call (.Attribute o name apos) args [] pos) env) d := by
  intro A Z R s ok W S
  refine wpAny_Call_method_late hbase hfew hline rfl (wpAny_mono (ho A Z R s ok W S) ?_ fun _ _ x => x)
  rintro v s1 ⟨Z1, l1, W1, i1⟩
  obtain ⟨h1, h2⟩ := tyD W1.fx i1 ht
  refine ⟨T, id, mk.attrs, mk.slot, mk.ty, h1, h2, callWith_builtin (trees_plain hpl) (evl_args (trees_plain hpl) ha ok W1 (S.mono l1 (.refl _)) fun vs s2 Z2 l2 W2 i2 => ?_)⟩
  exact wpAny_mono (hc A Z2 R s2 (v :: vs) ok W2 (.cons (i1.mono l2) i2)) (fun _ _ p => p.mono (l1.trans l2)) fun _ _ x => x

/-! subscripts -/
theorem ev_sub {value slice : Expr} {pos : Pos} {d1 d2 d : D} (hv : Ev prog w s₀ n env σ (eval value env) d1) (hi : Ev prog w s₀ n env σ (eval slice env) d2) (ho : Op2 prog w s₀ n (subscriptTail value slice) d1 d2 d) :
    Ev prog w s₀ n env σ (eval (.Subscript value slice pos) env) d := by
  intro A Z R s ok W S
  refine Subscript_ (wpAny_mono (hv A Z R s ok W S) ?_ fun _ _ x => x)
  rintro a s1 ⟨Z1, l1, W1, i1⟩
  refine wpAny_mono (hi A Z1 R s1 ok W1 (S.mono l1 (.refl _))) ?_ fun _ _ x => x
  rintro b s2 ⟨Z2, l2, W2, i2⟩
  exact wpAny_mono (ho A Z2 R s2 a b ok W2 (i1.mono l2) i2) (fun _ _ p => p.mono (l1.trans l2)) fun _ _ x => x
abbrev SubPlain (slice : Expr) : Prop := ∀ o i, subscripted slice false o i = operate [o, i] (getItem o i)
theorem op_item_lst {value slice : Expr} {ds : List D} {k : Int} {d : D} (h0 : 0 ≤ k) (hx : ds[k.toNat]? = some d) (hs : SubPlain slice := by intro _ _; with_unfolding_all rfl) :
    Op2 prog w s₀ n (subscriptTail value slice) (.lst ds) (.int k) d := by
  intro A Z R s u v ok W i j
  obtain ⟨t, rfl⟩ := j.int_inv
  ·
    obtain ⟨_, _, _, rfl, e, hz, ha⟩ := i.lst_inv
    ·
      rename_i a vs m
      obtain ⟨x, hx', ix⟩ := ha.get hx
      have hl : s.heap.IsList a vs.toArray := ⟨_, W.frz _ _ e, rfl, _, rfl⟩
      have hlt : k.toNat < vs.length := (List.getElem?_eq_some_iff.mp hx').1
      exact tail_any hl.typeIs slot_list_getitem.lookup (wpAny_getItem_list hl h0 (by have := sz_lt hz; omega) (by simpa using hx') (Post.here W ix)) (hs _ _)
theorem op_item_lst_neg {value slice : Expr} {ds : List D} {k : Int} {d : D} (h0 : k < 0) (h1 : -(ds.length : Int) ≤ k) (hx : ds[(k + ds.length).toNat]? = some d) (hs : SubPlain slice := by intro _ _; with_unfolding_all rfl) :
    Op2 prog w s₀ n (subscriptTail value slice) (.lst ds) (.int k) d := by
  intro A Z R s u v ok W i j
  obtain ⟨t, rfl⟩ := j.int_inv
  ·
    obtain ⟨_, _, _, rfl, e, hz, ha⟩ := i.lst_inv
    ·
      rename_i a vs m
      obtain ⟨x, hx', ix⟩ := ha.get hx
      have hl : s.heap.IsList a vs.toArray := ⟨_, W.frz _ _ e, rfl, _, rfl⟩
      have hlen := ha.length
      have hz' := sz_lt hz
      refine tail_any hl.typeIs slot_list_getitem.lookup (wpAny_getItem_list_neg hl h0 (by rw [List.size_toArray, hlen]; exact h1) (by omega) ?_ (Post.here W ix)) (hs _ _)
      rw [List.size_toArray, hlen]; simpa using hx'
theorem op_item_tup {value slice : Expr} {ds : List D} {k : Int} {d : D} (h0 : 0 ≤ k) (hx : ds[k.toNat]? = some d) (hs : SubPlain slice := by intro _ _; with_unfolding_all rfl) :
    Op2 prog w s₀ n (subscriptTail value slice) (.tup ds) (.int k) d := by
  intro A Z R s u v ok W i j
  obtain ⟨t, rfl⟩ := j.int_inv
  ·
    obtain ⟨_, _, _, rfl, e, hz, ha⟩ := i.tup_inv
    ·
      rename_i a vs m
      obtain ⟨x, hx', ix⟩ := ha.get hx
      have hl : IsTup s.heap a vs.toArray := ⟨_, W.frz _ _ e, rfl, _, rfl⟩
      have hlt : k.toNat < vs.length := (List.getElem?_eq_some_iff.mp hx').1
      have hz' := sz_lt hz
      refine item_tupleT hl (by omega) (by omega) (j := k.toNat) ?_ hx' (Post.here W ix) (hs _ _)
      unfold seqIndex?
      have hc : (decide (0 ≤ k) && decide (k < (vs.length : Int))) = true := by rw [Bool.and_eq_true, decide_eq_true_eq, decide_eq_true_eq]; omega
      simp only [show ¬ k < 0 from by omega, if_false, hc, if_true]

/-! dicts -/
def dget (kds : List (Str × D)) (x : Str) : Option D := (kds.find? fun kd => kd.1 = x).map (·.2)
theorem IsEnts.split {Z : Fz} : ∀ {es : List DictEntry} {kds : List (Str × D)}, IsEnts (hsOf prog w) Z es kds →
    ∃ kvs : List (Str × Value), Pairs (strKind prog w) es kvs ∧ kvs.map (·.1) = kds.map (·.1) ∧ KeysOf (strKind prog w) es.toArray ∧
      (∀ x d, dget kds x = some d → ∃ v, valueAt kvs x = some v ∧ Is (hsOf prog w) Z v d) ∧ (∀ x, dget kds x = none → valueAt kvs x = none) ∧ kvs.length = kds.length ∧ IsAll (hsOf prog w) Z (kvs.map (·.2)) (kds.map (·.2))
  | _, _, .nil => by
    refine ⟨[], Pairs.nil, rfl, fun e he => by simp at he, fun x d e => ?_, fun x e => rfl, rfl, IsAll.nil⟩
    simp [dget] at e
  | _, _, .cons (x := x) (t := t) (v := v) (d := d) (kds := kds) hv hr => by
    obtain ⟨kvs, p, e, k, h1, h2, hl, h3⟩ := hr.split
    refine ⟨(x, v) :: kvs, .cons (strKind_is prog w x t) rfl p, by simp [e], fun e' he' => ?_, fun y d' => ?_, fun y => ?_, by simp [hl], .cons hv h3⟩
    · rw [List.mem_toArray] at he'
      rcases List.mem_cons.mp he' with rfl | he'
      · exact ⟨x, strKind_is prog w x t, rfl⟩
      · exact k e' (by simpa using he')
    · by_cases hy : x = y
      · subst hy
        intro hh
        simp [dget] at hh
        subst hh
        exact ⟨v, by simp [valueAt], hv⟩
      · intro hh
        have : dget kds y = some d' := by simpa [dget, hy] using hh
        obtain ⟨v', a, b⟩ := h1 y d' this
        exact ⟨v', by simpa [valueAt, hy] using a, b⟩
    · by_cases hy : x = y
      · subst hy
        intro hh
        simp [dget] at hh
      · intro hh
        have : dget kds y = none := by simpa [dget, hy] using hh
        simpa [valueAt, hy] using h2 y this
theorem dict_of {Z : Fz} {h : Heap} {a : Addr} {es : List DictEntry} {m : Nat} {kvs : List (Str × Value)} {kds : List (Str × D)} (e : h.get? a = some (dctO es m)) (p : Pairs (strKind prog w) es kvs) (k : KeysOf (strKind prog w) es.toArray)
    (hk : kvs.map (·.1) = kds.map (·.1)) (hn : (kds.map (·.1)).Nodup) : h.DictOf (strKind prog w) a kvs := ⟨_, es.toArray, m, e, ⟨rfl, rfl, rfl⟩, rfl, k, by simpa using p, hk ▸ hn⟩
theorem op_item_dct {value slice : Expr} {kds : List (Str × D)} {x : Str} {d : D} (hx : dget kds x = some d) (hs : SubPlain slice := by intro _ _; with_unfolding_all rfl) :
    Op2 prog w s₀ n (subscriptTail value slice) (.dct kds) (.str x) d := by
  intro A Z R s u v ok W i j
  obtain ⟨t, rfl⟩ := j.str_inv
  ·
    obtain ⟨_, _, _, rfl, e, hm, hz, he, hn⟩ := i.dct_inv
    ·
      obtain ⟨kvs, p, hk, ks, h1, _, _, _⟩ := he.split
      obtain ⟨v, hv, iv⟩ := h1 x d hx
      have hd := dict_of (Z := Z) (W.frz _ _ e) p ks hk hn
      exact tail_any hd.mapOf.typeIs slot_dict_getitem.lookup (wpAny_getItem_of (strKind_is prog w x t) hd.mapOf hv (Post.here (W.tok _) iv)) (hs _ _)
theorem op_in_dct {kds : List (Str × D)} {x : Str} {b : Bool} (hb : b = (dget kds x).isSome) : Op2 prog w s₀ n (compareOp .In) (.str x) (.dct kds) (.bool b) := by
  intro A Z R s u v ok W i j
  obtain ⟨t, rfl⟩ := i.str_inv
  ·
    obtain ⟨_, _, _, rfl, e, hm, hz, he, hn⟩ := j.dct_inv
    ·
      obtain ⟨kvs, p, hk, ks, h1, h2, _, _⟩ := he.split
      have hd := dict_of (Z := Z) (W.frz _ _ e) p ks hk hn
      refine wpAny_in_of (strKind_is prog w x t) hm hd.mapOf (Post.here (W.tok _) ?_)
      have : (valueAt kvs x).isSome = b := by
        subst hb
        cases q : dget kds x with
        | none => rw [h2 x q]; rfl
        | some d => obtain ⟨v, hv, _⟩ := h1 x d q; rw [hv]; rfl
      rw [this]; exact .bool _
end Mine
namespace Mine
open PySem PySem.Calls PySem.W PyProof.Rows

def sset : Sto → Str → LV → Sto
  | [], x, lv => [(x, lv)]
  | (y, l) :: r, x, lv => if x = y then (y, lv) :: r else (y, l) :: sset r x lv
theorem lookup_sset : ∀ (σ : Sto) (x y : Str) (lv : LV), (sset σ x lv).lookup y = if y = x then some lv else σ.lookup y
  | [], x, y, lv => by
    by_cases h : y = x
    · subst h; simp [sset]
    · have : (y == x) = false := beq_eq_false_iff_ne.mpr h
      simp [sset, List.lookup, this, h]
  | (z, l) :: r, x, y, lv => by
    unfold sset
    by_cases hxz : x = z
    · subst hxz
      rw [if_pos rfl]
      by_cases h : y = x
      · subst h; simp [List.lookup]
      · have : (y == x) = false := beq_eq_false_iff_ne.mpr h
        simp [List.lookup, this, h]
    · rw [if_neg hxz]
      by_cases hy : y = z
      · subst hy
        have : ¬ y = x := fun e => hxz e.symm
        simp [List.lookup, this]
      · have hyz : (y == z) = false := beq_eq_false_iff_ne.mpr hy
        simp only [List.lookup, hyz]
        exact lookup_sset r x y lv

inductive Out where
  | next (σ : Sto)
  | brk (σ : Sto)
  | cont (σ : Sto)
  | ret (d : D)

structure Pv (hs : Str → Int) (env : Env) (Z R Y : Fz) (σ : Sto) : Prop where
  disj : ∀ a o, Y a = some o → R a = none
  fr : ∃ o m, Y env.locals = some o ∧ NsObj o m
  cel : ∀ x, env.kindOf x = some .cell → ∃ c o v, env.cells.lookup x = some c ∧ Y c = some o ∧ o.data = .cell v ∧ c ≠ env.locals
  cinj : ∀ x y c, env.kindOf x = some .cell → env.kindOf y = some .cell → env.cells.lookup x = some c → env.cells.lookup y = some c → x = y
  rd : ∀ x lv, σ.lookup x = some lv → ∃ v, Slot' env Y x v ∧ LvOk hs env Z Y v lv
  inj : ∀ x y d d' a, σ.lookup x = some (.own d) → σ.lookup y = some (.own d') → Slot' env Y x (.ref a) → Slot' env Y y (.ref a) → x = y
  nofree : ∀ x, env.kindOf x ≠ some .free

section
variable {hs : Str → Int} {env : Env} {Z Z' R Y : Fz} {σ : Sto}
theorem fle_forr {Y R : Fz} : FLe Y (forr Y R) := fun a o e => by simp [forr, e]
theorem fle_forr_r {Y R : Fz} (h : ∀ a o, Y a = some o → R a = none) : FLe R (forr Y R) := fun a o e => by
  cases q : Y a with
  | none => simp [forr, q, e]
  | some o' => rw [h a o' q] at e; cases e
theorem forr_cases {Y R : Fz} {a : Addr} {o : Obj} (h : forr Y R a = some o) : Y a = some o ∨ R a = some o := by
  unfold forr at h
  cases q : Y a with
  | none => rw [q] at h; exact .inr (by simpa using h)
  | some o' => rw [q] at h; exact .inl (by simpa using h)
theorem Pv.read (P : Pv hs env Z R Y σ) : Rd hs env Z (forr Y R) σ := fun x lv e => by
  obtain ⟨v, a, b⟩ := P.rd x lv e
  exact ⟨v, a.mono fle_forr, b.mono (.refl _) fle_forr⟩
theorem Pv.monoZ (P : Pv hs env Z R Y σ) (h : FLe Z Z') : Pv hs env Z' R Y σ :=
  ⟨P.disj, P.fr, P.cel, P.cinj, fun x lv e => let ⟨v, a, b⟩ := P.rd x lv e; ⟨v, a, b.mono h (.refl _)⟩, P.inj, P.nofree⟩
theorem Pv.weak (P : Pv hs env Z R Y σ) {τ : Sto} (h : ∀ x lv, τ.lookup x = some lv → σ.lookup x = some lv) : Pv hs env Z R Y τ :=
  ⟨P.disj, P.fr, P.cel, P.cinj, fun x lv e => P.rd x lv (h x lv e), fun x y d d' a e1 e2 => P.inj x y d d' a (h _ _ e1) (h _ _ e2), P.nofree⟩
end

variable {prog : Program} {w : World} {s₀ : Shared} {n : Nat} {env : Env} {σ : Sto}

def Res (prog : Program) (w : World) (env : Env) (Z R Y : Fz) : Flow → Out → Prop
  | .next, .next σ => Pv (hsOf prog w) env Z R Y σ
  | .brk, .brk σ => Pv (hsOf prog w) env Z R Y σ
  | .cont, .cont σ => Pv (hsOf prog w) env Z R Y σ
  | .ret v, .ret d => Is (hsOf prog w) Z v d ∧ ∀ a o, Y a = some o → R a = none
  | _, _ => False
def ExPost (prog : Program) (w : World) (s₀ : Shared) (env : Env) (Z R : Fz) (o : Out) (f : Flow) (s' : Shared) : Prop :=
  ∃ Z' Y', FLe Z Z' ∧ Wd s₀ Z' (forr Y' R) s' ∧ Res prog w env Z' R Y' f o
def Ex (prog : Program) (w : World) (s₀ : Shared) (n : Nat) (env : Env) (σ : Sto) (t : Sem Flow) (o : Out) : Prop :=
  ∀ A Z R Y s, Ok n A → Wd s₀ Z (forr Y R) s → Pv (hsOf prog w) env Z R Y σ → wpAny (model prog w) A t (ExPost prog w s₀ env Z R o) nope s
/-- a step that changes the store -/
def StPost (prog : Program) (w : World) (s₀ : Shared) (env : Env) (Z R : Fz) (τ : Sto) (s' : Shared) : Prop :=
  ∃ Z' Y', FLe Z Z' ∧ Wd s₀ Z' (forr Y' R) s' ∧ Pv (hsOf prog w) env Z' R Y' τ
theorem ExPost.mono {Z Z' R : Fz} {o : Out} {f : Flow} {s' : Shared} (h : FLe Z Z') (x : ExPost prog w s₀ env Z' R o f s') : ExPost prog w s₀ env Z R o f s' :=
  let ⟨a, b, c, d⟩ := x; ⟨a, b, h.trans c, d⟩
theorem StPost.mono {Z Z' R : Fz} {τ : Sto} {s' : Shared} (h : FLe Z Z') (x : StPost prog w s₀ env Z' R τ s') : StPost prog w s₀ env Z R τ s' :=
  let ⟨a, b, c, d⟩ := x; ⟨a, b, h.trans c, d⟩
theorem StPost.ex {Z R : Fz} {τ : Sto} {s' : Shared} (x : StPost prog w s₀ env Z R τ s') : ExPost prog w s₀ env Z R (.next τ) .next s' := x

/-! the change of one private cell -/
theorem Wd.setY {s : Shared} {Z R Y : Fz} (W : Wd s₀ Z (forr Y R) s) {a : Addr} {o o' : Obj} (hy : Y a = some o) {h' : Heap} {tk : Nat} (hs : Heap.SameBut a s.heap h') (ho : h'.get? a = some o') :
    Wd s₀ Z (forr (fset Y a o') R) { s with heap := h', toks := tk } := by
  have hz : Z a = none := W.off a o (fle_forr _ _ hy)
  refine ⟨W.base, fun b ob e => ?_, fun b ob e => ?_, fun b ob e => ?_, W.os, W.bare⟩
  · have hb : b ≠ a := fun q => by subst q; rw [hz] at e; cases e
    exact (W.cur b ob e).keep fun o' e' => (hs.2 b hb).trans e'
  · by_cases hb : b = a
    · subst hb
      have : forr (fset Y b o') R b = some o' := fle_forr _ _ fset_self
      rw [this] at e; cases e; exact ho
    · have : forr (fset Y a o') R b = forr Y R b := by unfold forr; rw [fset_ne hb]
      rw [this] at e
      exact (hs.2 b hb).trans (W.rest b ob e)
  · by_cases hb : b = a
    · subst hb; exact hz
    · have : forr (fset Y a o') R b = forr Y R b := by unfold forr; rw [fset_ne hb]
      rw [this] at e
      exact W.off b ob e
theorem own_not_cell {hs : Str → Int} {Z Y : Fz} {a : Addr} {o : Obj} {d : D} (x : OwnO hs Z a o d) : ∀ v, o.data ≠ .cell v := by
  cases x <;> exact fun v e => nomatch e

/-- storing a value under a name of the frame's -/
theorem wp_store {A : Around} {Z R Y : Fz} {s : Shared} {x : Str} {v : Value} {lv : LV} (O : EnvOk env) (W : Wd s₀ Z (forr Y R) s) (P : Pv (hsOf prog w) env Z R Y σ)
    (hk : env.kindOf x = some .local ∨ env.kindOf x = some .cell) (hv : LvOk (hsOf prog w) env Z Y v lv)
    (hfr : ∀ d a, lv = .own d → v = .ref a → ∀ y d', y ≠ x → σ.lookup y = some (.own d') → ¬ Slot' env Y y (.ref a)) :
    wpAny (model prog w) A (storeName env x v) (fun _ s' => StPost prog w s₀ env Z R (sset σ x lv) s') nope s := by
  have fin : ∀ (a : Addr) (o o' : Obj) (h' : Heap) (tk : Nat), Y a = some o → Heap.SameBut a s.heap h' → h'.get? a = some o' → Slot' env (fset Y a o') x v → (∀ y u, y ≠ x → Slot' env Y y u → Slot' env (fset Y a o') y u) →
      (∀ y u, y ≠ x → (∃ d, σ.lookup y = some (.own d)) → Slot' env (fset Y a o') y u → Slot' env Y y u) →
      (∀ b ob, OwnO (hsOf prog w) Z b ob (match lv with | .own d => d | .val d => d) → True) →
      (∃ ob m, fset Y a o' env.locals = some ob ∧ NsObj ob m) → (∀ y, env.kindOf y = some .cell → ∃ c ob u, env.cells.lookup y = some c ∧ fset Y a o' c = some ob ∧ ob.data = .cell u ∧ c ≠ env.locals) →
      (∀ b ob d, Y b = some ob → OwnO (hsOf prog w) Z b ob d → b ≠ env.locals → fset Y a o' b = some ob) →
      StPost prog w s₀ env Z R (sset σ x lv) { s with heap := h', toks := tk } := by
    intro a o o' h' tk hy hs ho hx hkeep hback _ hfrm hcel hown
    refine ⟨Z, fset Y a o', .refl Z, W.setY hy hs ho, ⟨fun b ob e => ?_, hfrm, hcel, P.cinj, fun y ly e => ?_, fun y z d d' b e1 e2 s1 s2 => ?_, P.nofree⟩⟩
    · by_cases hb : b = a
      · subst hb; exact P.disj b o hy
      · rw [fset_ne hb] at e; exact P.disj b ob e
    · rw [lookup_sset] at e
      by_cases hyx : y = x
      · rw [if_pos hyx] at e; cases e; subst hyx
        refine ⟨v, hx, ?_⟩
        cases lv with
        | val d => exact hv
        | own d => obtain ⟨b, ob, h1, h2, h3, h4⟩ := hv; exact ⟨b, ob, h1, hown b ob d h2 h3 h4, h3, h4⟩
      · rw [if_neg hyx] at e
        obtain ⟨u, a1, a2⟩ := P.rd y ly e
        refine ⟨u, hkeep y u hyx a1, ?_⟩
        cases ly with
        | val d => exact a2
        | own d => obtain ⟨b, ob, h1, h2, h3, h4⟩ := a2; exact ⟨b, ob, h1, hown b ob d h2 h3 h4, h3, h4⟩
    · rw [lookup_sset] at e1 e2
      by_cases h1 : y = x <;> by_cases h2 : z = x
      · exact h1.trans h2.symm
      · rw [if_pos h1] at e1; rw [if_neg h2] at e2
        cases e1
        have hvb : v = .ref b := by subst h1; exact hx.fun s1
        exact (hfr d b rfl hvb z d' h2 e2 (hback z _ h2 ⟨_, e2⟩ s2)).elim
      · rw [if_neg h1] at e1; rw [if_pos h2] at e2
        cases e2
        have hvb : v = .ref b := by subst h2; exact hx.fun s2
        exact (hfr d' b rfl hvb y d h1 e1 (hback y _ h1 ⟨_, e1⟩ s1)).elim
      · rw [if_neg h1] at e1; rw [if_neg h2] at e2
        exact P.inj y z d d' b e1 e2 (hback y _ h1 ⟨_, e1⟩ s1) (hback z _ h2 ⟨_, e2⟩ s2)
  obtain ⟨oL, m, hoL, hm⟩ := P.fr
  rcases hk with hk | hk
  · have hget := W.rest _ _ (fle_forr (R := R) _ _ hoL)
    refine wpAny_storeName_local hk (hm.ns hget) (fun h' hn' hs' => ?_) (by rw [O.fn]; rfl)
    obtain ⟨o', ho', hno'⟩ := nsObj_of hn'
    refine fin env.locals oL o' h' _ hoL hs' ho' (.inl ⟨hk, o', _, fset_self, hno', by simp⟩) (fun y u hyx hu => ?_) (fun y u hyx _ hu => ?_) (fun _ _ _ => trivial) ⟨o', _, fset_self, hno'⟩ (fun y hy => ?_) (fun b ob d hb _ hne => ?_)
    · rcases hu with ⟨k, o, m', h1, h2, h3⟩ | ⟨k, c, o, h1, h2, h3⟩
      · rw [hoL] at h1; cases h1
        rw [h2.fun hm] at h3
        exact .inl ⟨k, o', _, fset_self, hno', by rw [if_neg hyx]; exact h3⟩
      · refine .inr ⟨k, c, o, h1, ?_, h3⟩
        have : c ≠ env.locals := by
          rintro rfl
          rw [hoL] at h2; cases h2
          obtain ⟨es, ep, hd, _⟩ := hm
          rw [hd] at h3; cases h3
        rw [fset_ne this]; exact h2
    · rcases hu with ⟨k, o, m', h1, h2, h3⟩ | ⟨k, c, o, h1, h2, h3⟩
      · rw [fset_self] at h1; cases h1
        rw [h2.fun hno'] at h3
        exact .inl ⟨k, oL, m, hoL, hm, by simpa [hyx] using h3⟩
      · by_cases hc : c = env.locals
        · subst hc
          rw [fset_self] at h2; cases h2
          obtain ⟨es, ep, hd, _⟩ := hno'
          rw [hd] at h3; cases h3
        · rw [fset_ne hc] at h2
          exact .inr ⟨k, c, o, h1, h2, h3⟩
    · obtain ⟨c, ob, u, h1, h2, h3, h4⟩ := P.cel y hy
      exact ⟨c, ob, u, h1, by rw [fset_ne h4]; exact h2, h3, h4⟩
    · rw [fset_ne hne]; exact hb
  · obtain ⟨c, o, u, hc, hyc, hdc, hcL⟩ := P.cel x hk
    have hget := W.rest _ _ (fle_forr (R := R) _ _ hyc)
    refine wpAny_storeName_cell O.fn hk hc ⟨o, hget, hdc⟩ (fun h' hc' hs' => ?_)
    obtain ⟨o', ho', hd'⟩ := hc'
    refine fin c o o' h' s.toks hyc hs' ho' (.inr ⟨.inl hk, c, o', hc, fset_self, hd'⟩) (fun y u' hyx hu => ?_) (fun y u' hyx hown hu => ?_) (fun _ _ _ => trivial) ⟨oL, m, by rw [fset_ne (Ne.symm hcL)]; exact hoL, hm⟩ (fun y hy => ?_) (fun b ob d hb hO hne => ?_)
    · rcases hu with ⟨k, ou, m', h1, h2, h3⟩ | ⟨k, cu, ou, h1, h2, h3⟩
      · exact .inl ⟨k, ou, m', by rw [fset_ne (Ne.symm hcL)]; exact h1, h2, h3⟩
      · refine .inr ⟨k, cu, ou, h1, ?_, h3⟩
        by_cases hcu : cu = c
        · subst hcu
          rcases k with k | k
          · exact (hyx (P.cinj y x cu k hk h1 hc)).elim
          · exact (P.nofree y k).elim
        · rw [fset_ne hcu]; exact h2
    · rcases hu with ⟨k, ou, m', h1, h2, h3⟩ | ⟨k, cu, ou, h1, h2, h3⟩
      · rw [fset_ne (Ne.symm hcL)] at h1; exact .inl ⟨k, ou, m', h1, h2, h3⟩
      · by_cases hcu : cu = c
        · subst hcu
          rcases k with k | k
          · exact (hyx (P.cinj y x cu k hk h1 hc)).elim
          · exact (P.nofree y k).elim
        · rw [fset_ne hcu] at h2
          exact .inr ⟨k, cu, ou, h1, h2, h3⟩
    · obtain ⟨cy, ob, uy, h1, h2, h3, h4⟩ := P.cel y hy
      by_cases hcy : cy = c
      · subst hcy
        exact ⟨cy, o', some v, h1, fset_self, hd', h4⟩
      · exact ⟨cy, ob, uy, h1, by rw [fset_ne hcy]; exact h2, h3, h4⟩
    · have : b ≠ c := by
        rintro rfl
        rw [hyc] at hb; cases hb
        exact own_not_cell (Y := Y) hO _ hdc
      rw [fset_ne this]; exact hb
end Mine
namespace Mine
open PySem PySem.Calls PySem.W PyProof.Rows
variable {prog : Program} {w : World} {s₀ : Shared} {n : Nat} {env : Env} {σ : Sto}

/-! statement lists -/
theorem ex_nil : Ex prog w s₀ n env σ (execs [] env) (.next σ) := fun A Z R Y s ok W P => wpAny_execs_nil ⟨Z, Y, .refl Z, W, P⟩
theorem ex_cons {st : Stmt} {rest : List Stmt} {σ1 : Sto} {o : Out} (h : Ex prog w s₀ n env σ (exec st env) (.next σ1)) (k : Ex prog w s₀ n env σ1 (execs rest env) o) : Ex prog w s₀ n env σ (execs (st :: rest) env) o := by
  intro A Z R Y s ok W P
  refine wpAny_execs_cons (wpAny_mono (h A Z R Y s ok W P) ?_ fun _ _ x => x)
  rintro f s1 ⟨Z1, Y1, l1, W1, r1⟩
  cases f with
  | next => exact wpAny_mono (k A Z1 R Y1 s1 ok W1 r1) (fun _ _ p => p.mono l1) fun _ _ x => x
  | brk => exact r1.elim
  | cont => exact r1.elim
  | ret v => exact r1.elim
def Out.stops : Out → Prop
  | .next _ => False
  | _ => True
theorem ex_stop {st : Stmt} {rest : List Stmt} {o : Out} (h : Ex prog w s₀ n env σ (exec st env) o) (ho : o.stops := by trivial) : Ex prog w s₀ n env σ (execs (st :: rest) env) o := by
  intro A Z R Y s ok W P
  refine wpAny_execs_cons (wpAny_mono (h A Z R Y s ok W P) ?_ fun _ _ x => x)
  rintro f s1 p
  cases f with
  | next => obtain ⟨Z1, Y1, l1, W1, r1⟩ := p; cases o <;> first | exact ho.elim | exact r1.elim
  | brk => exact p
  | cont => exact p
  | ret v => exact p
theorem ex_weak {τ : Sto} {t : Sem Flow} {o : Out} (h : ∀ x lv, τ.lookup x = some lv → σ.lookup x = some lv) (k : Ex prog w s₀ n env τ t o) : Ex prog w s₀ n env σ t o :=
  fun A Z R Y s ok W P => k A Z R Y s ok W (P.weak h)
theorem sub_of_all {σ : Sto} {τ : Sto} (h : ∀ p ∈ τ, σ.lookup p.1 = some p.2) : ∀ x lv, τ.lookup x = some lv → σ.lookup x = some lv := by
  intro x lv e
  have := mem_of_lookup e
  exact h _ this

theorem ex_return {e : Expr} {pos : Pos} {d : D} (h : Ev prog w s₀ n env σ (eval e env) d) : Ex prog w s₀ n env σ (exec (.Return (some e) pos) env) (.ret d) := by
  intro A Z R Y s ok W P
  refine wpAny_Return_some (wpAny_mono (h A Z _ s ok W P.read) ?_ fun _ _ x => x)
  rintro v s1 ⟨Z1, l1, W1, i1⟩
  exact ⟨Z1, Y, l1, W1, i1, P.disj⟩
theorem ex_continue {pos : Pos} : Ex prog w s₀ n env σ (exec (.Continue pos) env) (.cont σ) := by
  intro A Z R Y s ok W P
  show wpAny _ A (do standAt pos; pure Flow.cont) _ _ _
  exact wpAny_bind (wpAny_standAt (wpAny_pure ⟨Z, Y, .refl Z, W, P⟩))
theorem ex_break {pos : Pos} : Ex prog w s₀ n env σ (exec (.Break pos) env) (.brk σ) := by
  intro A Z R Y s ok W P
  show wpAny _ A (do standAt pos; pure Flow.brk) _ _ _
  exact wpAny_bind (wpAny_standAt (wpAny_pure ⟨Z, Y, .refl Z, W, P⟩))
theorem ex_if_true {test : Expr} {body orelse : List Stmt} {pos : Pos} {o : Out} (ht : EvB prog w s₀ n env σ (isTrue test env (eval test env)) true) (hb : Ex prog w s₀ n env σ (execs body env) o) :
    Ex prog w s₀ n env σ (exec (.If test body orelse pos) env) o := by
  intro A Z R Y s ok W P
  refine wpAny_If (wpAny_mono (ht A Z _ s ok W P.read) ?_ fun _ _ x => x)
  rintro c s1 ⟨rfl, Z1, l1, W1⟩
  exact wpAny_mono (hb A Z1 R Y s1 ok W1 (P.monoZ l1)) (fun _ _ p => p.mono l1) fun _ _ x => x
theorem ex_if_false {test : Expr} {body orelse : List Stmt} {pos : Pos} {o : Out} (ht : EvB prog w s₀ n env σ (isTrue test env (eval test env)) false) (hb : Ex prog w s₀ n env σ (execs orelse env) o) :
    Ex prog w s₀ n env σ (exec (.If test body orelse pos) env) o := by
  intro A Z R Y s ok W P
  refine wpAny_If (wpAny_mono (ht A Z _ s ok W P.read) ?_ fun _ _ x => x)
  rintro c s1 ⟨rfl, Z1, l1, W1⟩
  exact wpAny_mono (hb A Z1 R Y s1 ok W1 (P.monoZ l1)) (fun _ _ p => p.mono l1) fun _ _ x => x

/-! assignment -/
def Asg (prog : Program) (w : World) (s₀ : Shared) (n : Nat) (env : Env) (σ : Sto) (f : Value → Sem Unit) (d : D) (τ : Sto) : Prop :=
  ∀ A Z R Y s v, Ok n A → Wd s₀ Z (forr Y R) s → Pv (hsOf prog w) env Z R Y σ → Is (hsOf prog w) Z v d → wpAny (model prog w) A (f v) (fun _ s' => StPost prog w s₀ env Z R τ s') nope s
def AsgL (prog : Program) (w : World) (s₀ : Shared) (n : Nat) (env : Env) (σ : Sto) (fs : List (Value → Sem Unit)) (ds : List D) (τ : Sto) : Prop :=
  ∀ A Z R Y s vs, Ok n A → Wd s₀ Z (forr Y R) s → Pv (hsOf prog w) env Z R Y σ → IsAll (hsOf prog w) Z vs ds → wpAny (model prog w) A (assignInOrder fs vs) (fun _ s' => StPost prog w s₀ env Z R τ s') nope s
theorem asg_store {x : Str} {d : D} (O : EnvOk env) (hk : env.kindOf x = some .local ∨ env.kindOf x = some .cell) : Asg prog w s₀ n env σ (storeName env x) d (sset σ x (.val d)) := by
  intro A Z R Y s v ok W P i
  exact wp_store O W P hk i (fun _ _ e => nomatch e)
theorem asg_name {x : Str} {pos : Pos} {d : D} (O : EnvOk env) (hk : env.kindOf x = some .local ∨ env.kindOf x = some .cell := by first | exact Or.inl rfl | exact Or.inr rfl) :
    Asg prog w s₀ n env σ (assign (.Name x pos) env) d (sset σ x (.val d)) := by
  intro A Z R Y s v ok W P i
  exact wpAny_assign_Name (wp_store O W P hk i (fun _ _ e => nomatch e))
theorem asg_bind {x : Str} {d : D} (O : EnvOk env) (hk : env.kindOf x = some .local ∨ env.kindOf x = some .cell := by first | exact Or.inl rfl | exact Or.inr rfl) :
    Asg prog w s₀ n env σ (fun v => bindName env x v) d (sset σ x (.val d)) := by
  intro A Z R Y s v ok W P i
  exact wpAny_bindName (wp_store O W P hk i (fun _ _ e => nomatch e))
theorem asgl_nil : AsgL prog w s₀ n env σ [] [] σ := by
  intro A Z R Y s vs ok W P i
  cases i
  exact wpAny_pure ⟨Z, Y, .refl Z, W, P⟩
theorem asgl_cons {f : Value → Sem Unit} {fs : List (Value → Sem Unit)} {d : D} {ds : List D} {σ1 τ : Sto} (h : Asg prog w s₀ n env σ f d σ1) (k : AsgL prog w s₀ n env σ1 fs ds τ) : AsgL prog w s₀ n env σ (f :: fs) (d :: ds) τ := by
  intro A Z R Y s vs ok W P i
  cases i with
  | cons i1 ir =>
    show wpAny _ A (do holding _ (f _); assignInOrder fs _) _ _ _
    refine wpAny_bind (wpAny_holding (wpAny_mono (h A Z R Y s _ ok W P i1) ?_ fun _ _ x => x))
    rintro _ s1 ⟨Z1, Y1, l1, W1, P1⟩
    exact wpAny_mono (k A Z1 R Y1 s1 _ ok W1 P1 (ir.mono l1)) (fun _ _ p => p.mono l1) fun _ _ x => x
theorem extBut_wd {s : Shared} {Z R : Fz} (W : Wd s₀ Z R s) {h' : Heap} {tk : Nat} (he : Heap.ExtBut s.heap.objs.size s.heap h') : Wd s₀ Z R { s with heap := h', toks := tk } :=
  W.grow fun b o e => he b o (Nat.ne_of_lt (Heap.lt_size e)) e
theorem asg_tuple {elts : List Expr} {k : Nat} {pos : Pos} {ds : List D} {τ : Sto} (h : AsgL prog w s₀ n env σ ((assignEach elts env).map (·.2)) ds τ) (hn : (assignEach elts env).length = ds.length := by rfl)
    (hstar : (assignEach elts env).findIdx? (·.1) = none := by rfl) : Asg prog w s₀ n env σ (assign (.Tuple elts k pos) env) (.tup ds) τ := by
  intro A Z R Y s v ok W P i
  obtain ⟨_, _, _, rfl, e, hz, ha⟩ := i.tup_inv
  ·
    refine wpAny_assign_Tuple ok.handled ⟨_, W.frz _ _ e, rfl, _, rfl⟩ (by rw [List.size_toArray, ha.length]; exact hn) hstar fun h' he => ?_
    exact h A Z R Y _ _ ok (extBut_wd (tk := s.toks) W he) P (by simpa using ha)
theorem ex_assign {target value : Expr} {pos : Pos} {d : D} {τ : Sto} (hv : Ev prog w s₀ n env σ (eval value env) d) (ha : Asg prog w s₀ n env σ (assign target env) d τ)
    (he : (assignEach [target] env).map (·.2) = [assign target env] := by rfl)
    (hs : swapsWithSole [target] value pos.line env = pure false := by rfl) (hw : swappedStores [target] value env = pure none := by rfl) :
    Ex prog w s₀ n env σ (exec (.Assign [target] value pos) env) (.next τ) := by
  intro A Z R Y s ok W P
  rw [exec_Assign]
  refine wpAny_bind (wpAny_standAt ?_)
  rw [hs]
  refine wpAny_bind (wpAny_pure ?_)
  rw [if_neg (by decide)]
  refine wpAny_bind (wpAny_mono (hv A Z _ s ok W P.read) ?_ fun _ _ x => x)
  rintro v s1 ⟨Z1, l1, W1, i1⟩
  rw [hw, he]
  refine wpAny_bind (wpAny_pure ?_)
  show wpAny _ A (do assignAll v [assign target env]; pure Flow.next) _ _ s1
  refine wpAny_bind (wpAny_mono (ha A Z1 R Y s1 v ok W1 (P.monoZ l1) i1) ?_ fun _ _ x => x)
  intro _ s2 p
  exact wpAny_pure (StPost.ex (p.mono l1))
/-- a tuple display stored under two or three names of the frame's: from behind -/
theorem ex_assign_swapped {elts : List Expr} {k : Nat} {tpos : Pos} {value : Expr} {pos : Pos} {names : List Str} {ds : List D} {τ : Sto} (hv : Ev prog w s₀ n env σ (eval value env) (.tup ds))
    (hw : swappedStores [.Tuple elts k tpos] value env = pure (some names)) (hn : names.length = ds.length)
    (ha : AsgL prog w s₀ n env σ (names.reverse.map fun x => bindName env x) ds.reverse τ)
    (hs : swapsWithSole [.Tuple elts k tpos] value pos.line env = pure false := by rfl) :
    Ex prog w s₀ n env σ (exec (.Assign [.Tuple elts k tpos] value pos) env) (.next τ) := by
  intro A Z R Y s ok W P
  refine Assign_Tuple_swapped (names := names) (wpAny_mono (hv A Z _ s ok W P.read) ?_ fun _ _ x => x) hs hw
  rintro v s1 ⟨Z1, l1, W1, i1⟩
  obtain ⟨_, _, _, rfl, e, hz, hal⟩ := i1.tup_inv
  ·
    rename_i a vs m
    have hT : IsTup s1.heap a vs.toArray := ⟨_, W1.frz _ _ e, rfl, _, rfl⟩
    have hsz : names.length = vs.toArray.size := by rw [List.size_toArray, hal.length]; exact hn
    rw [hsz]
    refine unpackItems_tuple ok.handled hT fun h' he => ?_
    have hrev : IsAll (hsOf prog w) Z1 vs.reverse ds.reverse := by
      have : ∀ {vs : List Value} {ds : List D}, IsAll (hsOf prog w) Z1 vs ds → IsAll (hsOf prog w) Z1 vs.reverse ds.reverse := by
        intro vs ds h
        induction vs generalizing ds with
        | nil => cases h; exact .nil
        | cons v vs ih => cases h with | cons h1 h2 => rw [List.reverse_cons, List.reverse_cons]; exact (ih h2).append (.one h1)
      exact this hal
    refine wpAny_mono (ha A Z1 R Y _ _ ok (extBut_wd (tk := s1.toks) W1 he) (P.monoZ l1) (by simpa using hrev)) ?_ fun _ _ x => x
    intro _ s2 p
    exact StPost.ex (p.mono l1)
theorem ex_aug_name {x : Str} {npos : Pos} {op : Operator} {value : Expr} {pos : Pos} {d1 d2 d : D} (O : EnvOk env) (h : σ.lookup x = some (.val d1)) (hv : Ev prog w s₀ n env σ (eval value env) d2) (ho : Op2 prog w s₀ n (inplaceOp op) d1 d2 d)
    (hk : env.kindOf x = some .local ∨ env.kindOf x = some .cell := by first | exact Or.inl rfl | exact Or.inr rfl) (hc : (x == ("__classdict__" : Str)) = false := by decide) :
    Ex prog w s₀ n env σ (exec (.AugAssign (.Name x npos) op value pos) env) (.next (sset σ x (.val d))) := by
  intro A Z R Y s ok W P
  obtain ⟨v, a, b⟩ := P.read x _ h
  refine wpAny_AugAssign_Name (slot_load O W.rest a ?_ hc)
  refine wpAny_mono (hv A Z _ s ok W P.read) ?_ fun _ _ x => x
  rintro u s1 ⟨Z1, l1, W1, i1⟩
  refine wpAny_mono (ho A Z1 _ s1 v u ok W1 (Is.mono l1 b) i1) ?_ fun _ _ x => x
  rintro r s2 ⟨Z2, l2, W2, i2⟩
  refine wpAny_mono (asg_store O hk A Z2 R Y s2 r ok W2 (P.monoZ (l1.trans l2)) i2) ?_ fun _ _ x => x
  intro _ s3 p
  exact StPost.ex (p.mono (l1.trans l2))

/-! the frame's own containers -/
theorem own_fresh {Z R Y : Fz} {s : Shared} (W : Wd s₀ Z (forr Y R) s) (P : Pv (hsOf prog w) env Z R Y σ) {o : Obj} (hf : o.isFreed = false) (hL : s.heap.objs.size ≠ env.locals) :
    Wd s₀ Z (forr (fset Y s.heap.objs.size o) R) { s with heap := s.heap.push o } ∧ Pv (hsOf prog w) env Z R (fset Y s.heap.objs.size o) σ ∧ Y s.heap.objs.size = none := by
  have hfree := W.none_of_ge (a := s.heap.objs.size) (Nat.le_refl _)
  have hy : Y s.heap.objs.size = none := by
    cases q : Y s.heap.objs.size with
    | none => rfl
    | some ob => rw [fle_forr _ _ q] at hfree; exact nomatch hfree.2
  have hr : R s.heap.objs.size = none := by
    cases q : R s.heap.objs.size with
    | none => rfl
    | some ob =>
      have := hfree.2
      unfold forr at this
      rw [hy, q] at this; exact nomatch this
  have hle : FLe Y (fset Y s.heap.objs.size o) := fle_fset hy
  refine ⟨⟨W.base, fun a ob e => (W.cur a ob e).keep fun _ e' => Heap.get?_push_of_some _ e', fun a ob e => ?_, fun a ob e => ?_, W.os, W.bare⟩, ⟨fun a ob e => ?_, ?_, fun x hx => ?_, P.cinj, fun x lv e => ?_, fun x y d d' a e1 e2 t1 t2 => ?_, P.nofree⟩, hy⟩
  · by_cases ha : a = s.heap.objs.size
    · subst ha
      have : forr (fset Y s.heap.objs.size o) R s.heap.objs.size = some o := fle_forr _ _ fset_self
      rw [this] at e; cases e
      exact Heap.get?_push_size _ hf
    · have : forr (fset Y s.heap.objs.size o) R a = forr Y R a := by unfold forr; rw [fset_ne ha]
      rw [this] at e
      exact Heap.get?_push_of_some _ (W.rest a ob e)
  · by_cases ha : a = s.heap.objs.size
    · subst ha; exact hfree.1
    · have : forr (fset Y s.heap.objs.size o) R a = forr Y R a := by unfold forr; rw [fset_ne ha]
      rw [this] at e
      exact W.off a ob e
  · by_cases ha : a = s.heap.objs.size
    · subst ha; exact hr
    · rw [fset_ne ha] at e; exact P.disj a ob e
  · obtain ⟨oL, m, h1, h2⟩ := P.fr
    exact ⟨oL, m, hle _ _ h1, h2⟩
  · obtain ⟨c, ob, v, h1, h2, h3, h4⟩ := P.cel x hx
    exact ⟨c, ob, v, h1, hle _ _ h2, h3, h4⟩
  · obtain ⟨v, a1, a2⟩ := P.rd x lv e
    refine ⟨v, a1.mono hle, ?_⟩
    cases lv with
    | val d => exact a2
    | own d => obtain ⟨a', o', g1, g2, g3, g4⟩ := a2; exact ⟨a', o', g1, hle _ _ g2, g3, g4⟩
  · obtain ⟨u, p1, _⟩ := P.rd x _ e1
    obtain ⟨u', p2, _⟩ := P.rd y _ e2
    have q1 := (p1.mono hle).fun t1
    have q2 := (p2.mono hle).fun t2
    subst q1; subst q2
    exact P.inj x y d d' a e1 e2 p1 p2
theorem fresh_ne_L {Z R Y : Fz} {s : Shared} (W : Wd s₀ Z (forr Y R) s) (P : Pv (hsOf prog w) env Z R Y σ) : s.heap.objs.size ≠ env.locals := by
  obtain ⟨oL, m, h1, h2⟩ := P.fr
  exact Nat.ne_of_gt (Heap.lt_size (W.rest _ _ (fle_forr _ _ h1)))
/-- x = [] -/
theorem asg_own_new {A : Around} {Z R Y : Fz} {s : Shared} {x : Str} {o : Obj} {d : D} (O : EnvOk env) (W : Wd s₀ Z (forr Y R) s) (P : Pv (hsOf prog w) env Z R Y σ) (hf : o.isFreed = false)
    (hk : env.kindOf x = some .local ∨ env.kindOf x = some .cell) (ho : OwnO (hsOf prog w) Z s.heap.objs.size o d) :
    wpAny (model prog w) A (storeName env x (.ref s.heap.objs.size)) (fun _ s' => StPost prog w s₀ env Z R (sset σ x (.own d)) s') nope { s with heap := s.heap.push o } := by
  obtain ⟨W1, P1, hy⟩ := own_fresh W P hf (fresh_ne_L W P)
  refine wp_store O W1 P1 hk (lv := .own d) ⟨_, o, rfl, fset_self, ho, fresh_ne_L W P⟩ ?_
  rintro d' a _ e y d'' hyx hl t
  cases e
  obtain ⟨u, p1, a', o', g1, g2, _⟩ := P.rd y _ hl
  have := (p1.mono (fle_fset hy)).fun t
  subst this
  cases g1
  rw [hy] at g2; cases g2
theorem ex_new_list {x : Str} {xp lp pos : Pos} (O : EnvOk env) (hk : env.kindOf x = some .local ∨ env.kindOf x = some .cell := by first | exact Or.inl rfl | exact Or.inr rfl) :
    Ex prog w s₀ n env σ (exec (.Assign [.Name x xp] (.List [] lp) pos) env) (.next (sset σ x (.own (.lst [])))) := by
  intro A Z R Y s ok W P
  refine wpAny_Assign_Name (List_ (spliced_nil ?_))
  refine wpAny_newObj_type ?_ (by show ([] : List Value).toArray.size ≤ sizeLine; decide)
  refine wpAny_mono (asg_own_new (o := lstO [] 0) (d := .lst []) O W P rfl hk (.lst (by decide) .nil)) ?_ fun _ _ x => x
  intro _ s3 p
  exact StPost.ex p
end Mine
namespace Mine
open PySem PySem.Calls PySem.W PyProof.Rows
variable {prog : Program} {w : World} {s₀ : Shared} {n : Nat} {env : Env} {σ : Sto}

theorem ex_new_dict {x : Str} {xp lp pos : Pos} (O : EnvOk env) (hk : env.kindOf x = some .local ∨ env.kindOf x = some .cell := by first | exact Or.inl rfl | exact Or.inr rfl) :
    Ex prog w s₀ n env σ (exec (.Assign [.Name x xp] (.Dict [] [] lp) pos) env) (.next (sset σ x (.own (.dct [])))) := by
  intro A Z R Y s ok W P
  refine wpAny_Assign_Name ?_
  show wpAny _ A (do standAt lp; dictDisplay []) _ _ s
  refine wpAny_bind (wpAny_standAt ?_)
  show wpAny _ A newDict _ _ s
  refine wpAny_newObj_type ?_ (by show (#[] : Array DictEntry).size ≤ sizeLine + 1; decide)
  refine wpAny_mono (asg_own_new (o := dctO [] 0) (d := .dct []) O W P rfl hk (.dct (W.low (Nat.le_refl _)) (by decide) .nil .nil)) ?_ fun _ _ x => x
  intro _ s3 p
  exact StPost.ex p

/-- one own container turns -/
theorem own_set {Z R Y : Fz} {s : Shared} {x : Str} {a : Addr} {o o' : Obj} {d d' : D} {h' : Heap} {tk : Nat} (W : Wd s₀ Z (forr Y R) s) (P : Pv (hsOf prog w) env Z R Y σ) (hx : σ.lookup x = some (.own d)) (ht : Slot' env Y x (.ref a))
    (hy : Y a = some o) (hO : OwnO (hsOf prog w) Z a o d) (hL : a ≠ env.locals) (hs : Heap.SameBut a s.heap h') (ho : h'.get? a = some o') (hO' : OwnO (hsOf prog w) Z a o' d') :
    StPost prog w s₀ env Z R (sset σ x (.own d')) { s with heap := h', toks := tk } := by
  have hnc : ∀ c ob u, Y c = some ob → ob.data = .cell u → c ≠ a := by
    rintro c ob u h1 h2 rfl
    rw [hy] at h1; cases h1
    exact own_not_cell (Y := Y) hO _ h2
  have keep : ∀ y v, Slot' env Y y v → Slot' env (fset Y a o') y v := by
    rintro y v (⟨k, ou, m', h1, h2, h3⟩ | ⟨k, cu, ou, h1, h2, h3⟩)
    · exact .inl ⟨k, ou, m', by rw [fset_ne (Ne.symm hL)]; exact h1, h2, h3⟩
    · exact .inr ⟨k, cu, ou, h1, by rw [fset_ne (hnc cu ou _ h2 h3)]; exact h2, h3⟩
  refine ⟨Z, fset Y a o', .refl Z, W.setY hy hs ho, ⟨fun b ob e => ?_, ?_, fun y hyc => ?_, P.cinj, fun y lv e => ?_, fun y z d1 d2 b e1 e2 t1 t2 => ?_, P.nofree⟩⟩
  · by_cases hb : b = a
    · subst hb; exact P.disj b o hy
    · rw [fset_ne hb] at e; exact P.disj b ob e
  · obtain ⟨oL, m, h1, h2⟩ := P.fr
    exact ⟨oL, m, by rw [fset_ne (Ne.symm hL)]; exact h1, h2⟩
  · obtain ⟨c, ob, v, h1, h2, h3, h4⟩ := P.cel y hyc
    exact ⟨c, ob, v, h1, by rw [fset_ne (hnc c ob _ h2 h3)]; exact h2, h3, h4⟩
  · rw [lookup_sset] at e
    by_cases hyx : y = x
    · rw [if_pos hyx] at e; cases e; subst hyx
      exact ⟨.ref a, keep y _ ht, a, o', rfl, fset_self, hO', hL⟩
    · rw [if_neg hyx] at e
      obtain ⟨u, a1, a2⟩ := P.rd y lv e
      refine ⟨u, keep y u a1, ?_⟩
      cases lv with
      | val d => exact a2
      | own d2 =>
        obtain ⟨b, ob, h1, h2, h3, h4⟩ := a2
        subst h1
        have hb : b ≠ a := by
          rintro rfl
          exact hyx (P.inj y x d2 d b e hx a1 ht)
        exact ⟨b, ob, rfl, by rw [fset_ne hb]; exact h2, h3, h4⟩
  · have key : ∀ y d1, (sset σ x (.own d')).lookup y = some (.own d1) → Slot' env (fset Y a o') y (.ref b) → (∃ d3, σ.lookup y = some (.own d3)) ∧ Slot' env Y y (.ref b) := by
      intro y d1 e t
      have hsome : ∃ d3, σ.lookup y = some (.own d3) := by
        rw [lookup_sset] at e
        by_cases hyx : y = x
        · subst hyx; exact ⟨d, hx⟩
        · rw [if_neg hyx] at e; exact ⟨d1, e⟩
      obtain ⟨d3, e3⟩ := hsome
      obtain ⟨u, p1, _⟩ := P.rd y _ e3
      have := (keep y u p1).fun t
      subst this
      exact ⟨⟨d3, e3⟩, p1⟩
    obtain ⟨⟨d3, e3⟩, q1⟩ := key y d1 e1 t1
    obtain ⟨⟨d4, e4⟩, q2⟩ := key z d2 e2 t2
    exact P.inj y z d3 d4 b e3 e4 q1 q2

theorem lookup_sset_self {σ : Sto} {x : Str} {lv : LV} : (sset σ x lv).lookup x = some lv := by rw [lookup_sset, if_pos rfl]

/-- the name of an own container, read -/
theorem own_load {A : Around} {Z R Y : Fz} {s : Shared} {x : Str} {xp : Pos} {d : D} {Q : Value → Shared → Prop} (O : EnvOk env) (W : Wd s₀ Z (forr Y R) s) (P : Pv (hsOf prog w) env Z R Y σ) (hx : σ.lookup x = some (.own d))
    (q : ∀ a o, Slot' env Y x (.ref a) → Y a = some o → OwnO (hsOf prog w) Z a o d → a ≠ env.locals → Q (.ref a) s)
    (hd : (x == ("__debug__" : Str)) = false := by decide) (hc : (x == ("__classdict__" : Str)) = false := by decide) : wpAny (model prog w) A (eval (.Name x xp) env) Q nope s := by
  obtain ⟨u, p1, a, o, h1, h2, h3, h4⟩ := P.rd x _ hx
  subst h1
  exact wpAny_Name (slot_load O W.rest (p1.mono fle_forr) (q a o p1 h2 h3 h4) hc) hd

/-- x.append(e) -/
theorem ex_append {x : Str} {xp apos pos pos2 : Pos} {e : Expr} {ds : List D} {d : D} (O : EnvOk env) (mk : MethOk "list" (Str.ofString "append") "list.append") (hx : σ.lookup x = some (.own (.lst ds))) (he : Ev prog w s₀ n env σ (eval e env) d)
    (hz : ds.length < sizeLine)
    (hbase : attributeBase (.Name x xp) (Str.ofString "append") env (eval (.Name x xp) env) = eval (.Name x xp) env := by rfl)
    (htree : backTo pos (starEach [e] env) = [(false, eval e env)] := by rfl)
    (hline : (apos.endLine == pos.line) = true := by rfl)
    (hi : interactive env = false := by rfl) (hs : swapsWith (.Call (.Attribute (.Name x xp) (Str.ofString "append") apos) [e] [] pos) none pos2.line env = pure false := by rfl)
    (hd : (x == ("__debug__" : Str)) = false := by decide) (hc : (x == ("__classdict__" : Str)) = false := by decide) :
    Ex prog w s₀ n env σ (exec (.Expr (.Call (.Attribute (.Name x xp) (Str.ofString "append") apos) [e] [] pos) pos2) env) (.next (sset σ x (.own (.lst (ds ++ [d]))))) := by
  intro A Z R Y s ok W P
  refine wpAny_Expr ?_ hi hs
  refine wpAny_Call_method_late hbase (by rw [htree]; rfl) hline htree (own_load O W P hx (fun a o t hy hO hL => ?_) hd hc)
  have hg := W.rest _ _ (fle_forr (R := R) _ _ hy)
  cases hO with
  | lst hlen hall =>
    rename_i vs m
    refine ⟨"list", _, mk.attrs, mk.slot, mk.ty, ⟨_, hg, rfl⟩, fun b e' => by cases e'; exact ⟨_, hg, rfl⟩, callWith_builtin rfl (evalArgs_plain (spliced_cons (wpAny_mono (he A Z _ s ok W P.read) ?_ fun _ _ x => x)))⟩
    rintro v s1 ⟨Z1, l1, W1, i1⟩
    refine spliced_nil ?_
    have hg1 := W1.rest _ _ (fle_forr (R := R) _ _ hy)
    have hvl := hall.length
    refine append_at hg1 (fun h' hsb hnew => ?_) (by rw [List.size_toArray]; exact hlen)
    have hO1 : OwnO (hsOf prog w) Z1 a (lstO vs m) (.lst ds) := .lst hlen (hall.mono l1)
    refine (StPost.ex (own_set W1 (P.monoZ l1) hx t hy hO1 hL hsb (o' := lstO (vs ++ [v]) (m + 1)) (by rw [hnew]; simp) (.lst (by simp; omega) ((hall.mono l1).append (.one i1))) (tk := s1.toks))).mono l1

theorem mapSeq_pop (its : Array Value) (m : Nat) (d : Option Addr) (sl : Array (Option Value)) (h : its.size ≠ 0) :
    Obj.mapSeq (fun xs => xs.eraseIdxIfInBounds (its.size - 1)) { cls := .type "list", dict := d, data := .seq its m, slots := sl } = { cls := .type "list", dict := d, data := .seq its.pop (m + 1), slots := sl } := by
  have e : its.eraseIdxIfInBounds (its.size - 1) = its.pop := by
    unfold Array.eraseIdxIfInBounds
    rw [dif_pos (by omega)]
    apply Array.ext'
    rw [Array.toList_eraseIdx, Array.toList_pop]
    rw [List.eraseIdx_eq_take_drop_succ, List.dropLast_eq_take]
    have h1 : its.size - 1 + 1 = its.toList.length := by rw [Array.length_toList]; omega
    rw [h1, List.drop_length, List.append_nil, Array.length_toList]
  simp only [Obj.mapSeq, e, Array.size_pop]
  have : (its.size - 1 == its.size) = false := beq_false_of_ne (by omega)
  rw [this]; rfl
/-- x.pop() of a list of texts -/
theorem ex_pop {x : Str} {xp apos pos pos2 : Pos} {ds : List D} {y : Str} (O : EnvOk env) (mk : MethOk "list" (Str.ofString "pop") "list.pop") (hx : σ.lookup x = some (.own (.lst (ds ++ [.str y]))))
    (hbase : attributeBase (.Name x xp) (Str.ofString "pop") env (eval (.Name x xp) env) = eval (.Name x xp) env := by rfl)
    (hline : (apos.endLine == pos.line) = true := by rfl)
    (hi : interactive env = false := by rfl) (hs : swapsWith (.Call (.Attribute (.Name x xp) (Str.ofString "pop") apos) [] [] pos) none pos2.line env = pure false := by rfl)
    (hd : (x == ("__debug__" : Str)) = false := by decide) (hc : (x == ("__classdict__" : Str)) = false := by decide) :
    Ex prog w s₀ n env σ (exec (.Expr (.Call (.Attribute (.Name x xp) (Str.ofString "pop") apos) [] [] pos) pos2) env) (.next (sset σ x (.own (.lst ds)))) := by
  intro A Z R Y s ok W P
  refine wpAny_Expr ?_ hi hs
  refine wpAny_Call_method_late hbase rfl hline rfl (own_load O W P hx (fun a o t hy hO hL => ?_) hd hc)
  have hg := W.rest _ _ (fle_forr (R := R) _ _ hy)
  cases id hO with
  | lst hlen hall =>
    rename_i vs m
    refine ⟨"list", _, mk.attrs, mk.slot, mk.ty, ⟨_, hg, rfl⟩, fun b e' => by cases e'; exact ⟨_, hg, rfl⟩, ?_⟩
    have hvl := hall.length
    rw [List.length_append, List.length_singleton] at hvl
    obtain ⟨v, hv, iv⟩ := hall.get (k := ds.length) (d := .str y) (by simp)
    obtain ⟨tk, rfl⟩ := iv.str_inv
    have hsz : vs.toArray.size = ds.length + 1 := by rw [List.size_toArray]; exact hvl
    refine PySem.P.pop_list (n := m) hg (y := .str y tk) (by rw [hsz]; simpa using hv) ?_ (by rw [List.size_toArray]; exact hlen)
    have hds : IsAll (hsOf prog w) Z (vs.take ds.length) ds := by
      have := hall.take ds.length
      simpa using this
    refine StPost.ex (own_set W P hx t hy hO hL (Heap.SameBut.update ..) (o' := lstO (vs.take ds.length) (m + 1)) ?_ (.lst (by rw [List.length_take]; omega) hds) (tk := s.toks))
    rw [Heap.get?_update_self _ hg (by rw [hsz, ← hsz, mapSeq_pop _ _ _ _ (by rw [hsz]; omega)]; rfl), mapSeq_pop _ _ _ _ (by rw [hsz]; omega)]
    have : vs.toArray.pop = (vs.take ds.length).toArray := by
      apply Array.ext'
      rw [Array.toList_pop]
      simp [List.dropLast_eq_take, hvl]
    rw [this]

/-- the ghost step: an own container is frozen -/
theorem ex_freeze {x : Str} {d : D} {t : Sem Flow} {o : Out} (hx : σ.lookup x = some (.own d)) (k : Ex prog w s₀ n env (sset σ x (.val d)) t o) : Ex prog w s₀ n env σ t o := by
  intro A Z R Y s ok W P
  obtain ⟨u, p1, a, ob, h1, h2, h3, h4⟩ := P.rd x _ hx
  subst h1
  have hR : R a = none := P.disj a ob h2
  have hz : Z a = none := W.off a ob (fle_forr _ _ h2)
  have le : FLe Z (fset Z a ob) := fle_fset hz
  let Y' : Fz := fun b => if b = a then none else Y b
  have hY' : ∀ b, b ≠ a → Y' b = Y b := fun b hb => if_neg hb
  have hYle : FLe Y' Y := fun b ob' e => by
    by_cases hb : b = a
    · subst hb; simp [Y'] at e
    · rw [hY' b hb] at e; exact e
  have hnc : ∀ c ob' u, Y c = some ob' → ob'.data = .cell u → c ≠ a := by
    rintro c ob' u g1 g2 rfl
    rw [h2] at g1; cases g1
    exact own_not_cell (Y := Y) h3 _ g2
  have keep : ∀ y v, Slot' env Y y v → Slot' env Y' y v := by
    rintro y v (⟨k, ou, m', g1, g2, g3⟩ | ⟨k, cu, ou, g1, g2, g3⟩)
    · exact .inl ⟨k, ou, m', by rw [hY' _ (Ne.symm h4)]; exact g1, g2, g3⟩
    · exact .inr ⟨k, cu, ou, g1, by rw [hY' _ (hnc cu ou _ g2 g3)]; exact g2, g3⟩
  have W' : Wd s₀ (fset Z a ob) (forr Y' R) s := by
    have W1 : Wd s₀ Z (forr Y' R) s := W.subR fun b ob' e => by
      rcases forr_cases e with q | q
      · exact fle_forr _ _ (hYle _ _ q)
      · exact fle_forr_r P.disj _ _ q
    refine W1.addZ hz ?_ (W.rest _ _ (fle_forr _ _ h2))
    simp [forr, Y', hR]
  refine wpAny_mono (k A (fset Z a ob) R Y' s ok W' ⟨fun b ob' e => P.disj b ob' (hYle _ _ e), ?_, fun y hyc => ?_, P.cinj, fun y lv e => ?_, fun y z d1 d2 b e1 e2 t1 t2 => ?_, P.nofree⟩) (fun _ _ p => p.mono le) fun _ _ x => x
  · obtain ⟨oL, m, g1, g2⟩ := P.fr
    exact ⟨oL, m, by rw [hY' _ (Ne.symm h4)]; exact g1, g2⟩
  · obtain ⟨c, ob', v, g1, g2, g3, g4⟩ := P.cel y hyc
    exact ⟨c, ob', v, g1, by rw [hY' _ (hnc c ob' _ g2 g3)]; exact g2, g3, g4⟩
  · rw [lookup_sset] at e
    by_cases hyx : y = x
    · rw [if_pos hyx] at e; cases e; subst hyx
      exact ⟨.ref a, keep y _ p1, (h3.mono le).is fset_self⟩
    · rw [if_neg hyx] at e
      obtain ⟨u, a1, a2⟩ := P.rd y lv e
      refine ⟨u, keep y u a1, ?_⟩
      cases lv with
      | val d => exact Is.mono le a2
      | own d2 =>
        obtain ⟨b, ob', g1, g2, g3, g4⟩ := a2
        subst g1
        have hb : b ≠ a := by
          rintro rfl
          exact hyx (P.inj y x d2 d b e hx a1 p1)
        exact ⟨b, ob', rfl, by rw [hY' _ hb]; exact g2, g3.mono le, g4⟩
  · rw [lookup_sset] at e1 e2
    have hy : y ≠ x := by
      rintro rfl; rw [if_pos rfl] at e1; cases e1
    have hz' : z ≠ x := by
      rintro rfl; rw [if_pos rfl] at e2; cases e2
    rw [if_neg hy] at e1; rw [if_neg hz'] at e2
    obtain ⟨u1, q1, _⟩ := P.rd y _ e1
    obtain ⟨u2, q2, _⟩ := P.rd z _ e2
    have r1 := (keep y u1 q1).fun t1
    have r2 := (keep z u2 q2).fun t2
    subst r1; subst r2
    exact P.inj y z d1 d2 b e1 e2 q1 q2
end Mine
namespace Mine
open PySem PySem.Calls PySem.W PyProof.Rows
variable {prog : Program} {w : World} {s₀ : Shared} {n : Nat} {env : Env} {σ : Sto}

def fdel (Z : Fz) (a : Addr) : Fz := fun b => if b = a then none else Z b
theorem fdel_self {Z : Fz} {a : Addr} : fdel Z a a = none := if_pos rfl
theorem fdel_ne {Z : Fz} {a b : Addr} (h : b ≠ a) : fdel Z a b = Z b := if_neg h
/-! an own container asked in a test -/
theorem thaw {x : Str} {d : D} {τ : Sto} {Z R : Fz} {s : Shared} (W : Wd s₀ Z R s) (S : Rd (hsOf prog w) env Z R σ) (hx : σ.lookup x = some (.own d))
    (hτ : ∀ y lv, τ.lookup y = some lv → (y = x ∧ lv = .val d) ∨ (∃ d', lv = .val d' ∧ σ.lookup y = some (.val d'))) :
    ∃ a o, R a = some o ∧ Z a = none ∧ Slot' env R x (.ref a) ∧ OwnO (hsOf prog w) Z a o d ∧
      Wd s₀ (fset Z a o) (fdel R a) s ∧ Rd (hsOf prog w) env (fset Z a o) (fdel R a) τ ∧
      (∀ Z' s', FLe (fset Z a o) Z' → Wd s₀ Z' (fdel R a) s' → FLe Z (fdel Z' a) ∧ Wd s₀ (fdel Z' a) R s') := by
  obtain ⟨u, p1, a, o, h1, h2, h3, h4⟩ := S x _ hx
  subst h1
  have hz : Z a = none := W.off a o h2
  have hs0 : s₀.heap.get? a = none := by
    cases q : s₀.heap.get? a with
    | none => rfl
    | some o' => rw [W.base.2 a o' q] at hz; cases hz
  have le : FLe Z (fset Z a o) := fle_fset hz
  have hle : FLe (fdel R a) R := fun b o' e => by
    by_cases hb : b = a
    · subst hb; rw [fdel_self] at e; cases e
    · rw [fdel_ne hb] at e; exact e
  have keep : ∀ y v, Slot' env R y v → Slot' env (fdel R a) y v := by
    rintro y v (⟨k, ou, m', g1, g2, g3⟩ | ⟨k, cu, ou, g1, g2, g3⟩)
    · exact .inl ⟨k, ou, m', by rw [fdel_ne (Ne.symm h4)]; exact g1, g2, g3⟩
    · refine .inr ⟨k, cu, ou, g1, ?_, g3⟩
      have : cu ≠ a := by
        rintro rfl
        rw [h2] at g2; cases g2
        exact own_not_cell (Y := R) h3 _ g3
      rw [fdel_ne this]; exact g2
  refine ⟨a, o, h2, hz, p1, h3, (W.subR hle).addZ hz fdel_self (W.rest _ _ h2), fun y lv e => ?_, fun Z' s' l W' => ⟨fun b o' e => ?_, ⟨⟨W'.base.1, fun b o' e => ?_⟩, fun b o' e => ?_, fun b o' e => ?_, fun b o' e => ?_, W'.os, W'.bare⟩⟩⟩
  · rcases hτ y lv e with ⟨rfl, rfl⟩ | ⟨d', rfl, e'⟩
    · exact ⟨.ref a, keep y _ p1, (h3.mono le).is fset_self⟩
    · obtain ⟨v, q1, q2⟩ := S y _ e'
      exact ⟨v, keep y v q1, Is.mono le q2⟩
  · by_cases hb : b = a
    · subst hb; rw [hz] at e; cases e
    · rw [fdel_ne hb]; exact l _ _ (le _ _ e)
  · by_cases hb : b = a
    · subst hb; rw [hs0] at e; cases e
    · rw [fdel_ne hb]; exact W'.base.2 b o' e
  · by_cases hb : b = a
    · subst hb; rw [fdel_self] at e; cases e
    · rw [fdel_ne hb] at e; exact W'.cur b o' e
  · by_cases hb : b = a
    · subst hb
      rw [h2] at e; cases e
      exact W'.frz _ _ (l _ _ fset_self) (fun q => by rw [q] at h3; cases h3)
    · exact W'.rest b o' (by rw [fdel_ne hb]; exact e)
  · by_cases hb : b = a
    · subst hb; exact fdel_self
    · rw [fdel_ne hb]; exact W'.off b o' (by rw [fdel_ne hb]; exact e)
theorem evB_thaw {x : Str} {d : D} {τ : Sto} {t : Sem Bool} {b : Bool} (hx : σ.lookup x = some (.own d))
    (hτ : ∀ y lv, τ.lookup y = some lv → (y = x ∧ lv = .val d) ∨ (∃ d', lv = .val d' ∧ σ.lookup y = some (.val d'))) (h : EvB prog w s₀ n env τ t b) : EvB prog w s₀ n env σ t b := by
  intro A Z R s ok W S
  obtain ⟨a, o, _, _, _, _, W1, S1, back⟩ := thaw W S hx hτ
  refine wpAny_mono (h A _ _ s ok W1 S1) ?_ fun _ _ x => x
  rintro c s' ⟨rfl, Z', l, W'⟩
  exact ⟨rfl, _, (back Z' s' l W').1, (back Z' s' l W').2⟩

/-- an item of an own dict -/
theorem ev_own_item {x : Str} {xp pos : Pos} {slice : Expr} {kds : List (Str × D)} {k : Str} {d : D} (O : EnvOk env) (hx : σ.lookup x = some (.own (.dct kds))) (hi : Ev prog w s₀ n env σ (eval slice env) (.str k)) (hk : dget kds k = some d)
    (hs : SubPlain slice := by intro _ _; with_unfolding_all rfl)
    (hd : (x == ("__debug__" : Str)) = false := by decide) (hc : (x == ("__classdict__" : Str)) = false := by decide) : Ev prog w s₀ n env σ (eval (.Subscript (.Name x xp) slice pos) env) d := by
  intro A Z R s ok W S
  obtain ⟨u, p1, a, o, h1, h2, h3, h4⟩ := S x _ hx
  subst h1
  refine Subscript_ (wpAny_Name (slot_load O W.rest p1 ?_ hc) hd)
  refine wpAny_mono (hi A Z R s ok W S) ?_ fun _ _ x => x
  rintro b s1 ⟨Z1, l1, W1, i1⟩
  obtain ⟨t, rfl⟩ := i1.str_inv
  ·
    cases h3 with
    | dct hm hz he hn =>
      obtain ⟨kvs, p, hkk, ks, g1, _, _, _⟩ := he.split
      obtain ⟨v, hv, iv⟩ := g1 k d hk
      have hd' := dict_of (Z := Z) (W1.rest _ _ h2) p ks hkk hn
      exact tail_any hd'.mapOf.typeIs slot_dict_getitem.lookup (wpAny_getItem_of (strKind_is prog w k t) hd'.mapOf hv ⟨Z1, l1, W1.tok _, iv.mono l1⟩) (hs _ _)

/-! storing into an own dict -/
def dset (kds : List (Str × D)) (k : Str) (d : D) : List (Str × D) :=
  if kds.any (fun kd => kd.1 = k) then kds.map (fun kd => if kd.1 = k then (kd.1, d) else kd) else kds ++ [(k, d)]
theorem ents_of {Z : Fz} : ∀ {es : List DictEntry} {kvs : List (Str × Value)} {kds : List (Str × D)}, Pairs (strKind prog w) es kvs → KeysOf (strKind prog w) es.toArray → kvs.map (·.1) = kds.map (·.1) → IsAll (hsOf prog w) Z (kvs.map (·.2)) (kds.map (·.2)) →
    IsEnts (hsOf prog w) Z es kds
  | [], [], [], _, _, _, _ => .nil
  | [], [], _ :: _, _, _, e, _ => nomatch e
  | e :: es, (k, v) :: kvs, [], .cons hk hv p, ks, h, _ => nomatch h
  | e :: es, (k, v) :: kvs, (k', d) :: kds, .cons hk hv p, ks, h, i => by
    simp only [List.map_cons, List.cons.injEq] at h
    obtain ⟨rfl, h⟩ := h
    cases i with
    | cons i1 ir =>
      obtain ⟨hash, key, val⟩ := e
      obtain ⟨k2, q1, q2⟩ := ks ⟨hash, key, val⟩ (by simp)
      have e1 := (strKind prog w).inj _ _ _ hk q1
      dsimp only at e1 q2 hv hk
      subst e1
      obtain ⟨t, rfl⟩ := Value.isStrOf_shape hk
      subst hv
      rw [q2]
      exact .cons i1 (ents_of p (fun e' he' => ks e' (by simp at he' ⊢; exact .inr he')) h ir)
theorem pairs_stored {Z : Fz} {kvs : List (Str × Value)} {kds : List (Str × D)} {k : Str} {v : Value} {d : D} (h : kvs.map (·.1) = kds.map (·.1)) (i : IsAll (hsOf prog w) Z (kvs.map (·.2)) (kds.map (·.2))) (iv : Is (hsOf prog w) Z v d) :
    (stored kvs k v).map (·.1) = (dset kds k d).map (·.1) ∧ IsAll (hsOf prog w) Z ((stored kvs k v).map (·.2)) ((dset kds k d).map (·.2)) := by
  have hany : kvs.any (fun kv => kv.1 = k) = kds.any (fun kd => kd.1 = k) := by
    have : ∀ {α : Type} (l : List (Str × α)), l.any (fun kv => decide (kv.1 = k)) = (l.map (·.1)).any (fun y => decide (y = k)) := by intro α l; rw [List.any_map]; rfl
    rw [this, this, h]
  unfold stored dset
  rw [hany]
  split
  · rename_i hx
    clear hany hx
    induction kvs generalizing kds with
    | nil => cases kds with
      | nil => exact ⟨rfl, .nil⟩
      | cons a b => cases h
    | cons a r ih => cases kds with
      | nil => cases h
      | cons b r' =>
        simp only [List.map_cons, List.cons.injEq] at h
        cases i with
        | cons i1 ir =>
          obtain ⟨e1, e2⟩ := ih h.2 ir
          constructor
          · simp only [List.map_cons, e1, List.cons.injEq, and_true]
            rw [h.1]
            split
            · rfl
            · exact h.1
          · simp only [List.map_cons]
            refine .cons ?_ e2
            rw [h.1]; split
            · exact iv
            · exact i1
  · simp only [List.map_append, h, List.map_cons, List.map_nil, true_and]
    exact i.append (.one iv)
theorem dset_len {kds : List (Str × D)} {k : Str} {d : D} : (dset kds k d).length ≤ kds.length + 1 := by unfold dset; split <;> simp
theorem wp_dset {A : Around} {Z R Y : Fz} {s : Shared} {x : Str} {a : Addr} {o : Obj} {k : Str} {t : Tok} {v : Value} {kds : List (Str × D)} {d : D} (W : Wd s₀ Z (forr Y R) s) (P : Pv (hsOf prog w) env Z R Y σ)
    (hx : σ.lookup x = some (.own (.dct kds))) (ht : Slot' env Y x (.ref a)) (hy : Y a = some o) (hO : OwnO (hsOf prog w) Z a o (.dct kds)) (hL : a ≠ env.locals) (hz : kds.length < sizeLine) (iv : Is (hsOf prog w) Z v d) :
    wpAny (model prog w) A (setItem (.ref a) (.str k t) v) (fun _ s' => StPost prog w s₀ env Z R (sset σ x (.own (.dct (dset kds k d)))) s') nope s := by
  have hg := W.rest _ _ (fle_forr (R := R) _ _ hy)
  cases id hO with
  | dct hm hlen he hn =>
    rename_i es m
    obtain ⟨kvs, p, hkk, ks, g1, g2, hl, g3⟩ := he.split
    have hd := dict_of (Z := Z) hg p ks hkk hn
    refine wpAny_setItem_pairs (strKind_is prog w k t) hd (fun h' hd' hs' => ?_) (by omega)
    obtain ⟨o', es', ep, ho', ⟨c1, c2, c3⟩, hdat, hk', hp', hn'⟩ := hd'
    obtain ⟨e1, e2⟩ := pairs_stored (k := k) hkk g3 iv
    have ho'' : h'.get? a = some (dctO es'.toList ep) := by
      rw [ho']
      obtain ⟨q1, q2, q3, q4⟩ := o'
      dsimp only at c1 c2 c3 hdat
      subst c1; subst c2; subst c3; subst hdat
      simp
    have hents := ents_of (Z := Z) (kds := dset kds k d) hp' (by simpa using hk') e1 e2
    have hlen' : es'.toList.length ≤ sizeLine := by
      have h1 := hp'.length
      have h2 : (stored kvs k v).length = (dset kds k d).length := by
        have := congrArg List.length e1
        simpa using this
      have h3 := dset_len (kds := kds) (k := k) (d := d)
      omega
    exact own_set W P hx ht hy hO hL hs' ho'' (.dct hm hlen' hents (e1 ▸ hn'))
theorem ex_dset {x : Str} {xp ip pos : Pos} {i value : Expr} {kds : List (Str × D)} {k : Str} {d : D} (O : EnvOk env) (hx : σ.lookup x = some (.own (.dct kds))) (hv : Ev prog w s₀ n env σ (eval value env) d) (hi : Ev prog w s₀ n env σ (eval i env) (.str k))
    (hz : kds.length < sizeLine)
    (he : (assignEach [.Subscript (.Name x xp) i ip] env).map (·.2) = [assign (.Subscript (.Name x xp) i ip) env] := by rfl)
    (hs : swapsWithSole [.Subscript (.Name x xp) i ip] value pos.line env = pure false := by rfl) (hw : swappedStores [.Subscript (.Name x xp) i ip] value env = pure none := by rfl)
    (hd : (x == ("__debug__" : Str)) = false := by decide) (hc : (x == ("__classdict__" : Str)) = false := by decide) :
    Ex prog w s₀ n env σ (exec (.Assign [.Subscript (.Name x xp) i ip] value pos) env) (.next (sset σ x (.own (.dct (dset kds k d))))) := by
  intro A Z R Y s ok W P
  rw [exec_Assign]
  refine wpAny_bind (wpAny_standAt ?_)
  rw [hs]
  refine wpAny_bind (wpAny_pure ?_)
  rw [if_neg (by decide)]
  refine wpAny_bind (wpAny_mono (hv A Z _ s ok W P.read) ?_ fun _ _ x => x)
  rintro v s1 ⟨Z1, l1, W1, i1⟩
  rw [hw, he]
  refine wpAny_bind (wpAny_pure ?_)
  show wpAny _ A (do assignAll v [assign (.Subscript (.Name x xp) i ip) env]; pure Flow.next) _ _ s1
  have P1 := P.monoZ l1
  refine wpAny_bind ?_
  show wpAny _ A (assign (.Subscript (.Name x xp) i ip) env v) _ _ s1
  rw [PySem.assign_Subscript]
  refine wpAny_bind (wpAny_holding (own_load O W1 P1 hx (fun a o t hy hO hL => ?_) hd hc))
  refine wpAny_bind (wpAny_holding (wpAny_mono (hi A Z1 _ s1 ok W1 P1.read) ?_ fun _ _ x => x))
  rintro kv s2 ⟨Z2, l2, W2, i2⟩
  obtain ⟨tk, rfl⟩ := i2.str_inv
  ·
    refine wpAny_bind (wpAny_standAt (wpAny_bind (wpAny_holding (wpAny_mono (wp_dset W2 (P1.monoZ l2) hx t hy (hO.mono l2) hL hz (i1.mono l2)) ?_ fun _ _ x => x))))
    rintro _ s3 p
    intro Γ p' hΓ
    rw [Sem.wp_release]
    exact (wpAny_pure (StPost.ex (p.mono (l1.trans l2))) : wpAny (model prog w) A (pure Flow.next) (ExPost prog w s₀ env Z R (Out.next (sset σ x (LV.own (D.dct (dset kds k d)))))) nope s3)
/-- x[i] += value, x an own dict -/
theorem ex_daug {x : Str} {xp sp pos : Pos} {op : Operator} {i value : Expr} {kds : List (Str × D)} {k : Str} {d1 d2 d : D} (O : EnvOk env) (hx : σ.lookup x = some (.own (.dct kds))) (hi : Ev prog w s₀ n env σ (eval i env) (.str k)) (hg : dget kds k = some d1)
    (hv : Ev prog w s₀ n env σ (eval value env) d2) (ho : Op2 prog w s₀ n (inplaceOp op) d1 d2 d) (hz : kds.length < sizeLine)
    (hst : ∀ ov iv nw, augStore i ov iv nw = (do holding [nw, ov, iv] (setItem ov iv nw); release [nw, ov, iv] []; pure .next) := by intro _ _ _; rfl)
    (hd : (x == ("__debug__" : Str)) = false := by decide) (hc : (x == ("__classdict__" : Str)) = false := by decide) :
    Ex prog w s₀ n env σ (exec (.AugAssign (.Subscript (.Name x xp) i sp) op value pos) env) (.next (sset σ x (.own (.dct (dset kds k d))))) := by
  intro A Z R Y s ok W P
  refine wpAny_AugAssign_SubscriptAny ?_ hst
  refine own_load O W P hx (fun a o t hy hO hL => ?_) hd hc
  refine wpAny_mono (hi A Z _ s ok W P.read) ?_ fun _ _ x => x
  rintro kv s1 ⟨Z1, l1, W1, i1⟩
  obtain ⟨tk, rfl⟩ := i1.str_inv
  ·
    have P1 := P.monoZ l1
    have hO1 := hO.mono l1
    cases id hO1 with
    | dct hm hlen he hn =>
      obtain ⟨kvs, p, hkk, ks, g1, g2, hl, g3⟩ := he.split
      have hdd := dict_of (Z := Z1) (W1.rest _ _ (fle_forr (R := R) _ _ hy)) p ks hkk hn
      obtain ⟨old, hold, iold⟩ := g1 k d1 hg
      refine wpAny_getItem_of (strKind_is prog w k tk) hdd.mapOf hold ?_
      have W1' := W1.tok (s1.toks + 1)
      refine wpAny_mono (hv A Z1 _ _ ok W1' P1.read) ?_ fun _ _ x => x
      rintro v s2 ⟨Z2, l2, W2, i2⟩
      refine wpAny_mono (ho A Z2 _ s2 old v ok W2 (iold.mono l2) i2) ?_ fun _ _ x => x
      rintro nw s3 ⟨Z3, l3, W3, i3⟩
      have P3 := P1.monoZ (l2.trans l3)
      refine wpAny_mono (wp_dset W3 P3 hx t hy (hO1.mono (l2.trans l3)) hL hz i3) ?_ fun _ _ x => x
      rintro _ s4 p
      exact StPost.ex (p.mono (l1.trans (l2.trans l3)))
end Mine
namespace Mine
open PySem PySem.Calls PySem.W PyProof.Rows
variable {prog : Program} {w : World} {s₀ : Shared} {n : Nat} {env : Env} {σ : Sto}

/-! codes: loops -/
def OkRes (prog : Program) (w : World) (s₀ : Shared) (env : Env) (Z R : Fz) (o : Out) (r : Result) (s' : Shared) : Prop := ∃ f, r = .ok f ∧ ExPost prog w s₀ env Z R o f s'
def ExC (prog : Program) (w : World) (s₀ : Shared) (n : Nat) (env : Env) (σ : Sto) (c : Code) (o : Out) : Prop :=
  ∀ A Z R Y s, Ok n A → Wd s₀ Z (forr Y R) s → Pv (hsOf prog w) env Z R Y σ → codeAny (model prog w) A c (OkRes prog w s₀ env Z R o) s
theorem exw_done {test : Expr} {body : List Stmt} (ht : EvB prog w s₀ n env σ (isTrue test env (eval test env)) false) : ExC prog w s₀ n env σ (.whileLoop test body [] env) (.next σ) := by
  intro A Z R Y s ok W P
  refine codeAny_of_tree ?_
  show wpAny _ A ((whileTurn test body [] env).onRaise (fun x => do noteFrame x env; theTreesLotGoes x)) _ _ s
  refine wpAny_noted ?_
  simp only [whileTurn]
  refine noE (wpAny_bind (wpAny_mono (ht A Z _ s ok W P.read) ?_ fun _ _ x => x))
  rintro c s1 ⟨rfl, Z1, l1, W1⟩
  simp only [Bool.false_eq_true, if_false]
  exact wpAny_bind (wpAny_execs_nil (wpAny_pure ⟨_, rfl, Z1, Y, l1, W1, P.monoZ l1⟩))
theorem exw_step {test : Expr} {body : List Stmt} {σ1 : Sto} {o : Out} (ht : EvB prog w s₀ n env σ (isTrue test env (eval test env)) true)
    (hb : Ex prog w s₀ n env σ (execs body env) (.next σ1) ∨ Ex prog w s₀ n env σ (execs body env) (.cont σ1)) (k : ExC prog w s₀ n env σ1 (.whileLoop test body [] env) o) :
    ExC prog w s₀ n env σ (.whileLoop test body [] env) o := by
  intro A Z R Y s ok W P
  refine codeAny_of_tree ?_
  show wpAny _ A ((whileTurn test body [] env).onRaise (fun x => do noteFrame x env; theTreesLotGoes x)) _ _ s
  refine wpAny_noted ?_
  simp only [whileTurn]
  refine noE (wpAny_bind (wpAny_mono (ht A Z _ s ok W P.read) ?_ fun _ _ x => x))
  rintro c s1 ⟨rfl, Z1, l1, W1⟩
  simp only [if_true]
  have fin : ∀ (s2 : Shared) (Z2 Y2 : Fz), FLe Z1 Z2 → Wd s₀ Z2 (forr Y2 R) s2 → Pv (hsOf prog w) env Z2 R Y2 σ1 → codeAny (model prog w) A (.whileLoop test body [] env) (OkRes prog w s₀ env Z R o) s2 := by
    intro s2 Z2 Y2 l2 W2 P2
    refine codeAny_mono (k A Z2 R Y2 s2 ok W2 P2) ?_
    rintro r s3 ⟨f, rfl, p⟩
    exact ⟨f, rfl, p.mono (l1.trans l2)⟩
  rcases hb with hb | hb
  · refine wpAny_bind (wpAny_mono (hb A Z1 R Y s1 ok W1 (P.monoZ l1)) ?_ fun _ _ x => x)
    rintro f s2 ⟨Z2, Y2, l2, W2, r2⟩
    cases f with
    | next => exact wpAny_pure ⟨rfl, fin s2 Z2 Y2 l2 W2 r2⟩
    | _ => exact r2.elim
  · refine wpAny_bind (wpAny_mono (hb A Z1 R Y s1 ok W1 (P.monoZ l1)) ?_ fun _ _ x => x)
    rintro f s2 ⟨Z2, Y2, l2, W2, r2⟩
    cases f with
    | cont => exact wpAny_pure ⟨rfl, fin s2 Z2 Y2 l2 W2 r2⟩
    | _ => exact r2.elim
theorem exc_weak {τ : Sto} {c : Code} {o : Out} (h : ∀ x lv, τ.lookup x = some lv → σ.lookup x = some lv) (k : ExC prog w s₀ n env τ c o) : ExC prog w s₀ n env σ c o :=
  fun A Z R Y s ok W P => k A Z R Y s ok W (P.weak h)
theorem ok_mark {A : Around} (ok : Ok n A) : Ok n (A.mark none) := ⟨ok.handled, ok.depth, ok.units⟩
theorem ex_of_code {c : Code} {o : Out} (h : ExC prog w s₀ n env σ c o) : Ex prog w s₀ n env σ (runOwn c env) o := by
  intro A Z R Y s ok W P
  refine wpAny_runOwn (codeAny_mono (h (A.mark none) Z R Y s (ok_mark ok) W P) ?_)
  rintro r s' ⟨f, rfl, p⟩
  exact p
theorem ex_while {test : Expr} {body : List Stmt} {pos : Pos} {o : Out} (h : ExC prog w s₀ n env σ (.whileLoop test body [] env) o) : Ex prog w s₀ n env σ (exec (.While test body [] pos) env) o := by
  intro A Z R Y s ok W P
  rw [exec_While]
  exact wpAny_bind (wpAny_standAt (ex_of_code h A Z R Y s ok W P))

/-! iterators -/
def IOff (I Z R : Fz) : Prop := ∀ a o, I a = some o → Z a = none ∧ R a = none
/-- a step of an iterator, with what the loop does to the pair it hands out -/
def nextGo (target : Expr) (it : Value) : Sem (Option Value) := do
  match ← pyNext it with
  | none => pure none
  | some v => do letOwnedTupleGo target it v; pure (some v)
def Stp (prog : Program) (w : World) (s₀ : Shared) (n : Nat) (target : Expr) (it : Value) : List D → Fz → Fz → Prop
  | [], Z, I => ∀ A Z' R s, Ok n A → FLe Z Z' → Wd s₀ Z' R s → FIn I s.heap → IOff I Z' R → wpAny (model prog w) A (nextGo target it) (fun r s' => r = none ∧ Wd s₀ Z' R s') nope s
  | d :: ds, Z, I => ∀ A Z' R s, Ok n A → FLe Z Z' → Wd s₀ Z' R s → FIn I s.heap → IOff I Z' R → wpAny (model prog w) A (nextGo target it)
      (fun r s' => ∃ v Z'' I', r = some v ∧ FLe Z' Z'' ∧ Wd s₀ Z'' R s' ∧ Is (hsOf prog w) Z'' v d ∧ FIn I' s'.heap ∧ IOff I' Z'' R ∧ Stp prog w s₀ n target it ds Z'' I') nope s
def SelfIt (prog : Program) (w : World) (it : Value) (I : Fz) : Prop := ∀ A s (Q : Value → Shared → Prop) (E : Value → Shared → Prop), FIn I s.heap → Q it s → wpAny (model prog w) A (pyIter it) Q E s
def Src (prog : Program) (w : World) (s₀ : Shared) (n : Nat) (target : Expr) (src : D) (items : List D) : Prop :=
  ∀ A Z R s v, Ok n A → Wd s₀ Z R s → Is (hsOf prog w) Z v src → wpAny (model prog w) A (pyIter v)
    (fun it s' => ∃ Z' I, FLe Z Z' ∧ Wd s₀ Z' R s' ∧ FIn I s'.heap ∧ IOff I Z' R ∧ SelfIt prog w it I ∧ Stp prog w s₀ n target it items Z' I) nope s
theorem forr_assoc {a b c : Fz} : forr a (forr b c) = forr (forr a b) c := by funext x; simp [forr, Option.or_assoc]

/-! for -/
def ForT (prog : Program) (w : World) (s₀ : Shared) (n : Nat) (env : Env) (target : Expr) (body : List Stmt) : List D → Sto → Out → Prop
  | [], σ, o => o = .next σ
  | d :: ds, σ, o => ∃ σ1, Asg prog w s₀ n env σ (assign target env) d σ1 ∧
      ((∃ σ2 σ3, (Ex prog w s₀ n env σ1 (execs body env) (.next σ2) ∨ Ex prog w s₀ n env σ1 (execs body env) (.cont σ2)) ∧ (∀ x lv, σ3.lookup x = some lv → σ2.lookup x = some lv) ∧ ForT prog w s₀ n env target body ds σ3 o) ∨
       (∃ σ2, Ex prog w s₀ n env σ1 (execs body env) (.brk σ2) ∧ o = .next σ2) ∨ (∃ d', Ex prog w s₀ n env σ1 (execs body env) (.ret d') ∧ o = .ret d'))
theorem bind_nextGo {A : Around} {s : Shared} {target : Expr} {it : Value} {Q : Option Value → Shared → Prop} {α : Type} {f : Sem α} {g : Value → Sem α} {Q' : α → Shared → Prop} {E : Value → Shared → Prop}
    (h : wpAny (model prog w) A (nextGo target it) (fun r s' => match r with | none => wpAny (model prog w) A f Q' E s' | some v => wpAny (model prog w) A (g v) Q' E s') E s) :
    wpAny (model prog w) A (do match ← pyNext it with | none => f | some v => do letOwnedTupleGo target it v; g v) Q' E s := by
  intro Γ p hΓ
  have h' := h Γ p hΓ
  unfold nextGo at h'
  rw [Sem.wp_bind'] at h' ⊢
  refine Sem.wp_mono _ Γ _ (fun r p' s' hr => ?_) (fun _ _ _ x => x) p s h'
  cases r with
  | none => exact hr Γ p' hΓ
  | some v =>
    dsimp only at hr ⊢
    rw [Sem.wp_bind'] at hr ⊢
    exact Sem.wp_mono _ Γ _ (fun _ p'' s'' h'' => h'' Γ p'' hΓ) (fun _ _ _ x => x) p' s' hr

theorem bind_nextGoR {A : Around} {s : Shared} {target : Expr} {it : Value} {h0 : Value → Sem Unit} {α : Type} {f : Sem α} {g : Value → Sem α} {Q' : α → Shared → Prop} {E : Value → Shared → Prop}
    (h : wpAny (model prog w) A (nextGo target it) (fun r s' => match r with | none => wpAny (model prog w) A f Q' E s' | some v => wpAny (model prog w) A (g v) Q' E s') nope s) :
    wpAny (model prog w) A (do match ← (pyNext it).onRaise h0 with | none => f | some v => do letOwnedTupleGo target it v; g v) Q' E s := by
  intro Γ p hΓ
  have h' := h Γ p hΓ
  unfold nextGo at h'
  rw [Sem.wp_bind'] at h'
  rw [Sem.wp_bind', Sem.wp_onRaise]
  refine Sem.wp_mono _ Γ _ (fun r p' s' hr => ?_) (fun _ _ _ x => x.elim) p s h'
  cases r with
  | none => exact hr Γ p' hΓ
  | some v =>
    dsimp only at hr ⊢
    rw [Sem.wp_bind'] at hr ⊢
    exact Sem.wp_mono _ Γ _ (fun _ p'' s'' h'' => h'' Γ p'' hΓ) (fun _ _ _ x => x.elim) p' s' hr
theorem off_forr {I Z Y R : Fz} (h : IOff I Z (forr Y R)) (hd : ∀ a o, Y a = some o → R a = none) : ∀ a o, I a = some o → Y a = none ∧ R a = none := fun a o e => by
  have := (h a o e).2
  unfold forr at this
  cases q : Y a with
  | none => rw [q] at this; exact ⟨rfl, by simpa using this⟩
  | some o' => rw [q] at this; simp at this
/-- the protected part grows by an iterator's cells -/
theorem Wd.withI {s : Shared} {Z Y R I : Fz} (W : Wd s₀ Z (forr Y R) s) (hI : FIn I s.heap) (ho : IOff I Z (forr Y R)) (hd : ∀ a o, Y a = some o → R a = none) : Wd s₀ Z (forr Y (forr I R)) s := by
  refine ⟨W.base, W.cur, fun a o e => ?_, fun a o e => ?_, W.os, W.bare⟩
  · rcases forr_cases e with q | q
    · exact W.rest _ _ (fle_forr _ _ q)
    · rcases forr_cases q with q | q
      · exact hI _ _ q
      · exact W.rest _ _ (fle_forr_r hd _ _ q)
  · rcases forr_cases e with q | q
    · exact W.off _ _ (fle_forr _ _ q)
    · rcases forr_cases q with q | q
      · exact (ho _ _ q).1
      · exact W.off _ _ (fle_forr_r hd _ _ q)
theorem Pv.withI {Z Y R I : Fz} (P : Pv (hsOf prog w) env Z R Y σ) (ho : IOff I Z (forr Y R)) : Pv (hsOf prog w) env Z (forr I R) Y σ := by
  refine ⟨fun a o e => ?_, P.fr, P.cel, P.cinj, P.rd, P.inj, P.nofree⟩
  cases q : I a with
  | none => simp [forr, q, P.disj a o e]
  | some o' =>
    have := (off_forr ho P.disj a o' q).1
    rw [e] at this; cases this
theorem Pv.dropI {Z Y R I : Fz} (P : Pv (hsOf prog w) env Z (forr I R) Y σ) : Pv (hsOf prog w) env Z R Y σ := by
  refine ⟨fun a o e => ?_, P.fr, P.cel, P.cinj, P.rd, P.inj, P.nofree⟩
  have := P.disj a o e
  unfold forr at this
  cases q : I a with
  | none => rw [q] at this; simpa using this
  | some o' => rw [q] at this; simp at this
theorem Wd.dropI {s : Shared} {Z Y R I : Fz} (W : Wd s₀ Z (forr Y (forr I R)) s) (hd : ∀ a o, Y a = some o → forr I R a = none) (hIR : ∀ a o, I a = some o → R a = none) : Wd s₀ Z (forr Y R) s ∧ FIn I s.heap ∧ IOff I Z (forr Y R) := by
  have hIn : ∀ a o, I a = some o → Y a = none := fun a o e => by
    cases q : Y a with
    | none => rfl
    | some o' =>
      have := hd a o' q
      simp [forr, e] at this
  refine ⟨W.subR fun a o e => ?_, fun a o e => W.rest _ _ (fle_forr_r hd _ _ (fle_forr _ _ e)), fun a o e => ⟨W.off _ _ (fle_forr_r hd _ _ (fle_forr _ _ e)), ?_⟩⟩
  · rcases forr_cases e with q | q
    · exact fle_forr _ _ q
    · refine fle_forr_r hd _ _ (fle_forr_r (fun b ob e' => hIR b ob e') _ _ q)
  · simp [forr, hIn a o e, hIR a o e]

theorem exc_for {target : Expr} {body : List Stmt} {it : Value} : ∀ {items : List D} {σ : Sto} {o : Out}, ForT prog w s₀ n env target body items σ o →
    ∀ A Z R Y I s, Ok n A → Wd s₀ Z (forr Y R) s → Pv (hsOf prog w) env Z R Y σ → FIn I s.heap → IOff I Z (forr Y R) → Stp prog w s₀ n target it items Z I →
      codeAny (model prog w) A (.forLoop target it body [] env) (OkRes prog w s₀ env Z R o) s := by
  intro items
  induction items with
  | nil =>
    intro σ o hF A Z R Y I s ok W P hI ho hS
    have hF : o = .next σ := hF
    subst hF
    refine codeAny_of_tree ?_
    show wpAny _ A ((forTurn target it body [] env).onRaise (fun x => do noteFrame x env; theTreesLotGoes x)) _ _ s
    refine wpAny_noted (noE ?_)
    simp only [forTurn]
    refine wpAny_bind (wpAny_standAt ?_)
    refine bind_nextGoR (wpAny_mono (hS A Z _ s ok (.refl Z) W hI ho) ?_ fun _ _ x => x)
    rintro r s1 ⟨rfl, W1⟩
    exact wpAny_pure (And.intro rfl (codeAny_block (wpAny_execs_nil ⟨_, rfl, Z, Y, .refl Z, W1, P⟩)))
  | cons d ds ih =>
    intro σ o hF A Z R Y I s ok W P hI ho hS
    obtain ⟨σ1, ha, hb⟩ := hF
    refine codeAny_of_tree ?_
    show wpAny _ A ((forTurn target it body [] env).onRaise (fun x => do noteFrame x env; theTreesLotGoes x)) _ _ s
    refine wpAny_noted (noE ?_)
    simp only [forTurn]
    refine wpAny_bind (wpAny_standAt ?_)
    refine bind_nextGoR (wpAny_mono (hS A Z _ s ok (.refl Z) W hI ho) ?_ fun _ _ x => x)
    rintro r s1 ⟨v, Z1, I1, rfl, l1, W1, i1, hI1, ho1, hS1⟩
    have P1 := P.monoZ l1
    have hIR : ∀ a ob, I1 a = some ob → R a = none := fun a ob e => (off_forr ho1 P1.disj a ob e).2
    dsimp only
    refine wpAny_bind (wpAny_mono (ha A Z1 (forr I1 R) Y s1 v ok (W1.withI hI1 ho1 P1.disj) (P1.withI ho1) i1) ?_ fun _ _ x => x)
    rintro _ s2 ⟨Z2, Y2, l2, W2, P2⟩
    rcases hb with ⟨σ2, σ3, hb, hw, hF'⟩ | ⟨σ2, hb, rfl⟩ | ⟨d', hb, rfl⟩
    · have fin : ∀ (s3 : Shared) (Z3 Y3 : Fz), FLe Z2 Z3 → Wd s₀ Z3 (forr Y3 (forr I1 R)) s3 → Pv (hsOf prog w) env Z3 (forr I1 R) Y3 σ2 → codeAny (model prog w) A (.forLoop target it body [] env) (OkRes prog w s₀ env Z R o) s3 := by
        intro s3 Z3 Y3 l3 W3 P3
        obtain ⟨W4, hI4, ho4⟩ := W3.dropI P3.disj hIR
        have hS4 : Stp prog w s₀ n target it ds Z3 I1 := by
          have lz := l2.trans l3
          cases ds with
          | nil => exact fun A Z' R s ok l W hI ho => hS1 A Z' R s ok (lz.trans l) W hI ho
          | cons d2 ds2 => exact fun A Z' R s ok l W hI ho => hS1 A Z' R s ok (lz.trans l) W hI ho
        refine codeAny_mono (ih hF' A Z3 R Y3 I1 s3 ok W4 (P3.dropI.weak hw) hI4 ho4 hS4) ?_
        rintro r s5 ⟨f, rfl, p⟩
        exact ⟨f, rfl, p.mono ((l1.trans l2).trans l3)⟩
      rcases hb with hb | hb
      · refine wpAny_bind (wpAny_mono (hb A Z2 (forr I1 R) Y2 s2 ok W2 P2) ?_ fun _ _ x => x)
        rintro f s3 ⟨Z3, Y3, l3, W3, r3⟩
        cases f with
        | next => exact wpAny_pure (And.intro rfl (fin s3 Z3 Y3 l3 W3 r3))
        | _ => exact r3.elim
      · refine wpAny_bind (wpAny_mono (hb A Z2 (forr I1 R) Y2 s2 ok W2 P2) ?_ fun _ _ x => x)
        rintro f s3 ⟨Z3, Y3, l3, W3, r3⟩
        cases f with
        | cont => exact wpAny_pure (And.intro rfl (fin s3 Z3 Y3 l3 W3 r3))
        | _ => exact r3.elim
    · refine wpAny_bind (wpAny_mono (hb A Z2 (forr I1 R) Y2 s2 ok W2 P2) ?_ fun _ _ x => x)
      rintro f s3 ⟨Z3, Y3, l3, W3, r3⟩
      cases f with
      | brk =>
        have P3 : Pv (hsOf prog w) env Z3 (forr I1 R) Y3 σ2 := r3
        exact wpAny_pure ⟨.next, rfl, Z3, Y3, (l1.trans l2).trans l3, (W3.dropI P3.disj hIR).1, P3.dropI⟩
      | _ => exact r3.elim
    · refine wpAny_bind (wpAny_mono (hb A Z2 (forr I1 R) Y2 s2 ok W2 P2) ?_ fun _ _ x => x)
      rintro f s3 ⟨Z3, Y3, l3, W3, r3⟩
      cases f with
      | ret u =>
        obtain ⟨r3, hd3⟩ := r3
        have hdR : ∀ a o, Y3 a = some o → R a = none := fun a o e => by
          have := hd3 a o e
          unfold forr at this
          cases q : I1 a with
          | none => rw [q] at this; simpa using this
          | some o' => rw [q] at this; simp at this
        exact wpAny_pure ⟨.ret u, rfl, Z3, Y3, (l1.trans l2).trans l3, (W3.dropI hd3 hIR).1, r3, hdR⟩
      | _ => exact r3.elim
theorem ex_for {target iter : Expr} {body : List Stmt} {pos : Pos} {src : D} {items : List D} {o : Out} (hi : Ev prog w s₀ n env σ (eval iter env) src) (hs : Src prog w s₀ n target src items) (hF : ForT prog w s₀ n env target body items σ o)
    (hfs : ∀ x, foldedSetIterable iter env x = pure x := by intro _; rfl) : Ex prog w s₀ n env σ (exec (.For target iter body [] pos) env) o := by
  intro A Z R Y s ok W P
  refine wpAny_For (wpAny_mono (hi A Z _ s ok W P.read) ?_ fun _ _ x => x) hfs
  rintro v s1 ⟨Z1, l1, W1, i1⟩
  refine wpAny_mono (hs A Z1 _ s1 v ok W1 i1) ?_ fun _ _ x => x
  rintro it s2 ⟨Z2, I, l2, W2, hI, ho, _, hS⟩
  refine codeAny_mono (exc_for hF A Z2 R Y I s2 ok W2 (P.monoZ (l1.trans l2)) hI ho hS) ?_
  rintro r s3 ⟨f, rfl, p⟩
  exact p.mono (l1.trans l2)

/-! try, where nothing is raised -/
theorem ex_try {body : List Stmt} {hs : List ExceptHandler} {pos : Pos} {o : Out} (hb : Ex prog w s₀ n env σ (execs body env) o) : Ex prog w s₀ n env σ (exec (.Try body hs [] [] pos) env) o := by
  intro A Z R Y s ok W P
  show wpAny _ A (do standAt pos; tryStmt false (execs body env) hs (execs [] env) [] env) _ _ s
  refine wpAny_bind (wpAny_standAt ?_)
  unfold tryStmt
  simp only [List.isEmpty_nil, if_true]
  refine wpAny_bind (wpAny_attempt (wpAny_mono (hb A Z R Y s ok W P) ?_ fun _ _ x => x.elim))
  rintro f s1 p
  cases f with
  | next => exact wpAny_execs_nil p
  | brk => exact wpAny_pure p
  | cont => exact wpAny_pure p
  | ret v => exact wpAny_pure p

/-! calls of the text's own defs -/
def benv (sc : Scope) (q : Str) (L a : Addr) (code : Value) : Env :=
  { scope := sc, locals := L, globals := mainGlobals, cells := cellsFrom (L + 1) sc.names [], qual := q ++ ".<locals>.", func := some a, code := code, frame := some L, builtins := builtinsNs }
theorem benv_ok {sc : Scope} {q : Str} {L a : Addr} {code : Value} (h : sc.kind = .function) : EnvOk (benv sc q L a code) := ⟨h, rfl, rfl⟩
structure FnIs (s₀ : Shared) (a : Addr) (d : DefRec) : Prop where
  fn : ∃ o pm code doc, s₀.heap.get? a = some o ∧ o.data = .func (docDef d.name d.params d.body d.scope pm code doc) ∧ s₀.heap.CodeRec code d.name
def pnames (d : DefRec) : List Str := d.params.args.map (·.arg)
def psto (d : DefRec) (ds : List D) : Sto := (pnames d).zip (ds.map .val)
theorem bindL_at {kindOf : Str → Option NameKind} {x : Str} {v : Value} : ∀ {binds : List (Str × Value)} {m : Str → Option Value}, (binds.map (·.1)).Nodup → (x, v) ∈ binds → kindOf x = some .local → bindL kindOf binds m x = some v := by
  have stay : ∀ {binds : List (Str × Value)} {m : Str → Option Value}, x ∉ binds.map (·.1) → bindL kindOf binds m x = m x := by
    intro binds
    induction binds with
    | nil => intro m _; rfl
    | cons b r ih =>
      obtain ⟨y, u⟩ := b
      intro m h
      simp only [List.map_cons, List.mem_cons, not_or] at h
      unfold bindL
      rw [ih h.2]
      split
      · exact if_neg h.1
      · rfl
  intro binds
  induction binds with
  | nil => intro m _ h; cases h
  | cons b r ih =>
    obtain ⟨y, u⟩ := b
    intro m hn hm hk
    simp only [List.map_cons, List.nodup_cons] at hn
    unfold bindL
    rcases List.mem_cons.mp hm with e | hm
    · cases e
      rw [stay hn.1, if_pos hk]
      exact if_pos rfl
    · exact ih hn.2 hm hk
theorem bindC_at {kindOf : Str → Option NameKind} {x : Str} {v : Value} : ∀ {binds : List (Str × Value)} {m : Str → Option Value}, (binds.map (·.1)).Nodup → (x, v) ∈ binds → kindOf x = some .cell → bindC kindOf binds m x = some v := by
  have stay : ∀ {binds : List (Str × Value)} {m : Str → Option Value}, x ∉ binds.map (·.1) → bindC kindOf binds m x = m x := by
    intro binds
    induction binds with
    | nil => intro m _; rfl
    | cons b r ih =>
      obtain ⟨y, u⟩ := b
      intro m h
      simp only [List.map_cons, List.mem_cons, not_or] at h
      unfold bindC
      rw [ih h.2]
      split
      · rfl
      · exact if_neg h.1
  intro binds
  induction binds with
  | nil => intro m _ h; cases h
  | cons b r ih =>
    obtain ⟨y, u⟩ := b
    intro m hn hm hk
    simp only [List.map_cons, List.nodup_cons] at hn
    unfold bindC
    rcases List.mem_cons.mp hm with e | hm
    · cases e
      rw [stay hn.1, if_neg (by rw [hk]; decide)]
      exact if_pos rfl
    · exact ih hn.2 hm hk
theorem zip_vals {hs : Str → Int} {Z : Fz} : ∀ {names : List Str} {vs : List Value} {ds : List D} {x : Str} {lv : LV}, IsAll hs Z vs ds → (names.zip (ds.map LV.val)).lookup x = some lv → ∃ v d, lv = .val d ∧ (x, v) ∈ names.zip vs ∧ Is hs Z v d
  | [], _, _, _, _, _, h => by simp at h
  | _ :: _, _, _, _, _, .nil, h => by simp at h
  | y :: r, _, _, x, lv, .cons (v := v) (d := d) i ir, h => by
    rw [List.map_cons, List.zip_cons_cons, List.lookup_cons] at h
    by_cases hx : x = y
    · subst hx
      simp at h
      exact ⟨v, d, h.symm, by simp, i⟩
    · have : (x == y) = false := beq_eq_false_iff_ne.mpr hx
      rw [this] at h
      obtain ⟨v', d', e1, e2, e3⟩ := zip_vals ir h
      exact ⟨v', d', e1, by rw [List.zip_cons_cons]; exact List.mem_cons_of_mem _ e2, e3⟩

structure DefOk (d : DefRec) (k : Nat) : Prop where
  bind : ∀ pm code doc vs, vs.length = k → bindArgs (docDef d.name d.params d.body d.scope pm code doc) ⟨vs, []⟩ = pure ((pnames d).zip vs)
  len : (pnames d).length = k
  kind : ∀ x ∈ pnames d, d.scope.names.lookup x = some .local ∨ d.scope.names.lookup x = some .cell
  nodup : (pnames d).Nodup
  free : ∀ x ∈ d.scope.names, x.2 ≠ .free
  co : d.scope.isCoroutine = false
  gen : d.scope.isGenerator = false
  fn : d.scope.kind = .function
theorem lookup_ne_free {names : List (Str × NameKind)} (h : ∀ x ∈ names, x.2 ≠ .free) (x : Str) : names.lookup x ≠ some .free := fun e => h _ (mem_of_lookup e) rfl

/-- what stands in the frame when the body begins -/
theorem entered {A : Around} {Z R : Fz} {s s₁ : Shared} {env : Env} {σ : Sto} {binds : List (Str × Value)} (W : Wd s₀ Z R s) (hL : env.locals = s.heap.objs.size) (hcells : env.cells = cellsFrom (s.heap.objs.size + 1) env.scope.names [])
    (hfree : ∀ x ∈ env.scope.names, x.2 ≠ .free) (x : InCallC s env.locals (bindL env.kindOf binds fun _ => none) env.cells (bindC env.kindOf binds fun _ => none) s₁) (hn : (binds.map (·.1)).Nodup)
    (hk : ∀ b ∈ binds, env.kindOf b.1 = some .local ∨ env.kindOf b.1 = some .cell)
    (hσ : ∀ y lv, σ.lookup y = some lv → ∃ v d, lv = .val d ∧ (y, v) ∈ binds ∧ Is (hsOf prog w) Z v d) :
    ∃ Y, Wd s₀ Z (forr Y R) s₁ ∧ Pv (hsOf prog w) env Z R Y σ := by
  let Y : Fz := fun b => if s.heap.objs.size ≤ b then s₁.heap.get? b else none
  have hY : ∀ b o, s.heap.objs.size ≤ b → s₁.heap.get? b = some o → Y b = some o := fun b o h e => by simp [Y, h, e]
  have hY' : ∀ b o, Y b = some o → s.heap.objs.size ≤ b ∧ s₁.heap.get? b = some o := fun b o e => by
    by_cases h : s.heap.objs.size ≤ b
    · simp [Y, h] at e; exact ⟨h, e⟩
    · simp [Y, h] at e
  obtain ⟨h₁, tk, hs₁, hkeep⟩ := x.done
  subst hs₁
  have hcel : ∀ y, env.kindOf y = some .cell → ∃ c, env.cells.lookup y = some c := fun y hy => by
    rw [hcells]
    exact Option.isSome_iff_exists.mp (cellsFrom_some env.scope.names _ [] (.inl hy))
  have hcc : ∀ y c, env.cells.lookup y = some c → ∃ o, Y c = some o ∧ o.data = .cell (bindC env.kindOf binds (fun _ => none) y) ∧ c ≠ env.locals := fun y c hc => by
    obtain ⟨o, ho, hd⟩ := x.cell y c hc
    have hab := x.above y c (mem_of_lookup hc)
    rw [hL] at hab
    exact ⟨o, hY c o (Nat.le_of_lt hab) ho, hd, by rw [hL]; exact Nat.ne_of_gt hab⟩
  obtain ⟨oL, hoL, hns⟩ := nsObj_of x.toInCall.ns
  have hYL : Y env.locals = some oL := hY _ _ (Nat.le_of_eq hL.symm) hoL
  refine ⟨Y, ⟨W.base, fun a o e => (W.cur a o e).keep (hkeep a), fun a o e => ?_, fun a o e => ?_, W.os, W.bare⟩, ⟨fun a o e => (W.none_of_ge (hY' a o e).1).2, ⟨oL, _, hYL, hns⟩, fun y hy => ?_, fun y z c _ _ h1 h2 => ?_, fun y lv e => ?_, fun y z d d' a e1 _ _ _ => ?_, fun y => lookup_ne_free hfree y⟩⟩
  · rcases forr_cases e with q | q
    · exact (hY' a o q).2
    · exact hkeep a o (W.rest a o q)
  · rcases forr_cases e with q | q
    · exact (W.none_of_ge (hY' a o q).1).1
    · exact W.off a o q
  · obtain ⟨c, hc⟩ := hcel y hy
    obtain ⟨o, h1, h2, h3⟩ := hcc y c hc
    exact ⟨c, o, _, hc, h1, h2, h3⟩
  · exact name_of_addr x.apart (mem_of_lookup h1) (mem_of_lookup h2)
  · obtain ⟨v, d, rfl, hm, i⟩ := hσ y lv e
    refine ⟨v, ?_, i⟩
    rcases hk _ hm with k | k
    · exact .inl ⟨k, oL, _, hYL, hns, bindL_at hn hm k⟩
    · obtain ⟨c, hc⟩ := hcel y k
      obtain ⟨o, h1, h2, h3⟩ := hcc y c hc
      exact .inr ⟨.inl k, c, o, hc, h1, by rw [h2, bindC_at hn hm k]⟩
  · obtain ⟨v, d2, e2, _⟩ := hσ y _ e1
    cases e2

theorem call_fnC {a : Addr} {d : DefRec} {ds : List D} {r : D} (P : Value → Prop) (hP : ∀ o fd, s₀.heap.get? a = some o → o.data = .func fd → P fd.code) (hf : FnIs s₀ a d) (D0 : DefOk d ds.length) (h : ∀ L code, P code → Ex prog w s₀ n (benv d.scope d.name L a code) (psto d ds) (execs d.body (benv d.scope d.name L a code)) (.ret r)) :
    CallT prog w s₀ (n + 1) (.ref a) ds r := by
  intro A Z R s vs ok W i
  obtain ⟨o, pm, code, doc, ho, hd, hcd⟩ := hf.fn
  have hlen : vs.length = ds.length := i.length
  have hbn : (((pnames d).zip vs).map (·.1)) = pnames d := by
    rw [List.map_fst_zip]; rw [D0.len, hlen]; exact Nat.le_refl _
  refine wpAny_call ?_
  refine codeAny_call_cells (binds := (pnames d).zip vs) (fd := docDef d.name d.params d.body d.scope pm code doc) (body := d.body) (by have := ok.depth; show A.depth < 1000; omega) (W.keep0 _ _ ho (fun q => by rw [q] at hd; cases hd)) hd W.nolim (W.codeRec hcd) rfl (D0.bind pm code doc vs hlen) rfl
    (fun x hx => ?_) (fun s₁ X => ?_) D0.co D0.gen D0.fn
  · have hx' : x.1 ∈ pnames d := by rw [← hbn]; exact List.mem_map_of_mem hx
    rcases D0.kind _ hx' with k | k
    · exact .inl k
    · exact .inr ⟨k, cellsFrom_some _ _ [] (.inl k)⟩
  · obtain ⟨Y, W1, P1⟩ := entered (prog := prog) (w := w) (A := A) (σ := psto d ds) (env := benv d.scope d.name s.heap.objs.size a code) W rfl rfl D0.free X (by rw [hbn]; exact D0.nodup)
      (fun b hb => D0.kind _ (by rw [← hbn]; exact List.mem_map_of_mem hb)) (fun y lv e => by obtain ⟨v, d', e1, e2, e3⟩ := zip_vals i e; exact ⟨v, d', e1, e2, e3⟩)
    refine wpAny_mono (h s.heap.objs.size code (hP _ _ ho hd) (A.deeper (benv d.scope d.name s.heap.objs.size a code)) Z R Y s₁ ?_ W1 P1) ?_ (fun _ _ x => x.elim)
    · refine ⟨ok.handled, ?_, ?_⟩
      · have := ok.depth; show A.depth + 1 + n ≤ 400; omega
      · have := ok.units; show A.units + 3 + 20 * n ≤ 1000; omega
    · rintro f s2 ⟨Z2, Y2, l2, W2, r2⟩
      cases f with
      | ret v => exact ⟨Z2, l2, W2.subR (fle_forr_r r2.2), r2.1⟩
      | _ => exact r2.elim
theorem call_fn {a : Addr} {d : DefRec} {ds : List D} {r : D} (hf : FnIs s₀ a d) (D0 : DefOk d ds.length) (h : ∀ L code, Ex prog w s₀ n (benv d.scope d.name L a code) (psto d ds) (execs d.body (benv d.scope d.name L a code)) (.ret r)) :
    CallT prog w s₀ (n + 1) (.ref a) ds r := call_fnC (fun _ => True) (fun _ _ _ _ => trivial) hf D0 fun L code _ => h L code
end Mine
namespace Mine
open PySem PySem.Calls PySem.W PyProof.Rows
variable {prog : Program} {w : World} {s₀ : Shared} {n : Nat} {env : Env} {σ : Sto}

/-! plain iterators: one cell -/
def one (a : Addr) (o : Obj) : Fz := fun b => if b = a then some o else none
theorem one_in {a : Addr} {o : Obj} {h : Heap} (e : h.get? a = some o) : FIn (one a o) h := fun b o' e' => by
  by_cases hb : b = a
  · subst hb; simp [one] at e'; subst e'; exact e
  · simp [one, hb] at e'
theorem one_at {a : Addr} {o : Obj} {h : Heap} (H : FIn (one a o) h) : h.get? a = some o := H _ _ (by simp [one])
theorem one_off {a : Addr} {o : Obj} {Z R : Fz} (hz : Z a = none) (hr : R a = none) : IOff (one a o) Z R := fun b o' e' => by
  by_cases hb : b = a
  · subst hb; exact ⟨hz, hr⟩
  · simp [one, hb] at e'
def ownsT : List String := ["enumerate", "zip", "dict_itemiterator", "dict_reverseitemiterator", "odict_iterator", "itertools.zip_longest", "itertools.pairwise"]
theorem letOwned_plain {A : Around} {s : Shared} {target : Expr} {it : Addr} {v : Value} {o : Obj} {T : String} {Q : Unit → Shared → Prop} {E : Value → Shared → Prop} (ho : s.heap.get? it = some o) (hc : o.cls = .type T) (hT : ownsT.contains T = false) (h : Q () s) :
    wpAny (model prog w) A (letOwnedTupleGo target (.ref it) v) Q E s := by
  obtain ⟨c, dct, dat, sl⟩ := o
  dsimp only at hc
  subst hc
  have key : ∀ (a : Addr), wpAny (model prog w) A (do
      let o ← load it
      match o.cls, o.data with
      | .type n, .fields vs =>
        if ownsT.contains n && vs[0]? == some (rawInt a) then
          rule "for.unpacks-the-owned-tuple"
          updateField it 0 .none
      | _, _ => pure () : Sem Unit) Q E s := by
    intro a
    refine wpAny_bind (wpAny_load ho ?_)
    cases dat with
    | fields vs =>
      show wpAny _ A (if (ownsT.contains T && vs[0]? == some (rawInt a)) = true then _ else _) _ _ _
      rw [if_neg (by rw [hT]; simp)]
      exact wpAny_pure h
    | _ => exact wpAny_pure h
  cases target with
  | Tuple elts k p =>
    cases v with
    | ref a => exact key a
    | _ => exact wpAny_pure h
  | List elts p =>
    cases v with
    | ref a => exact key a
    | _ => exact wpAny_pure h
  | _ => exact wpAny_pure h

theorem stp_one {target : Expr} {it : Addr} {items : List D} {Z : Fz} (G : Nat → Obj → Prop)
    (hcls : ∀ i o, G i o → ∃ T, o.cls = .type T ∧ ownsT.contains T = false)
    (item : ∀ i d, items[i]? = some d → ∀ A Z' R s o, Ok n A → FLe Z Z' → Wd s₀ Z' R s → s.heap.get? it = some o → G i o →
      wpAny (model prog w) A (pyNext (.ref it)) (fun r s' => ∃ v h' tk o', r = some v ∧ s' = { s with heap := h', toks := tk } ∧ Is (hsOf prog w) Z' v d ∧ Heap.ExtBut it s.heap h' ∧ h'.get? it = some o' ∧ G (i + 1) o') nope s)
    (fin : ∀ A Z' R s o, Ok n A → FLe Z Z' → Wd s₀ Z' R s → s.heap.get? it = some o → G items.length o →
      wpAny (model prog w) A (pyNext (.ref it)) (fun r s' => ∃ h' tk, r = none ∧ s' = { s with heap := h', toks := tk } ∧ Heap.ExtBut it s.heap h') nope s) :
    ∀ {rest : List D} {i : Nat} {o : Obj} {Z1 : Fz}, items.drop i = rest → i ≤ items.length → G i o → FLe Z Z1 → Stp prog w s₀ n target (.ref it) rest Z1 (one it o) := by
  intro rest
  induction rest with
  | nil =>
    intro i o Z1 hd hi hG hz A Z' R s ok l W hI ho
    have hlen : i = items.length := by
      have := congrArg List.length hd
      simp at this; omega
    subst hlen
    unfold nextGo
    refine wpAny_bind (wpAny_mono (fin A Z' R s o ok (hz.trans l) W (one_at hI) hG) ?_ fun _ _ x => x)
    rintro r s' ⟨h', tk, rfl, rfl, he⟩
    exact wpAny_pure ⟨rfl, W.but (· = it) (fun a e => e ▸ ho _ _ (by simp [one]; rfl)) fun b ob hb e => he b ob hb e⟩
  | cons d ds ih =>
    intro i o Z1 hd hi hG hz A Z' R s ok l W hI ho
    have hx : items[i]? = some d := by
      have := congrArg (fun l => l[0]?) hd
      simpa using this
    have hlt : i < items.length := (List.getElem?_eq_some_iff.mp hx).1
    have hd' : items.drop (i + 1) = ds := by
      have := congrArg List.tail hd
      simpa using this
    unfold nextGo
    refine wpAny_bind (wpAny_mono (item i d hx A Z' R s o ok (hz.trans l) W (one_at hI) hG) ?_ fun _ _ x => x)
    rintro r s' ⟨v, h', tk, o', rfl, rfl, iv, he, ho', hG'⟩
    obtain ⟨T, hc, hT⟩ := hcls _ _ hG'
    have hoff := ho it o (by simp [one])
    refine wpAny_bind (letOwned_plain ho' hc hT (wpAny_pure ⟨v, Z', one it o', rfl, .refl Z', W.but (· = it) (fun a e => e ▸ hoff) fun b ob hb e => he b ob hb e, iv, one_in ho', one_off hoff.1 hoff.2, ih hd' hlt hG' (hz.trans l)⟩))

theorem src_of_push {target : Expr} {src : D} {items : List D} {o0 : Value → Obj}
    (hiter : ∀ A Z R s v, Ok n A → Wd s₀ Z R s → Is (hsOf prog w) Z v src → ∀ Q : Value → Shared → Prop, (∀ o, o.isFreed = false → (∀ target, Stp prog w s₀ n target (.ref s.heap.objs.size) items Z (one s.heap.objs.size o)) → SelfIt prog w (.ref s.heap.objs.size) (one s.heap.objs.size o) →
      Q (.ref s.heap.objs.size) { s with heap := s.heap.push o }) → wpAny (model prog w) A (pyIter v) Q nope s) : Src prog w s₀ n target src items := by
  intro A Z R s v ok W i
  refine hiter A Z R s v ok W i _ fun o hf hS hself => ?_
  have hfree := W.none_of_ge (a := s.heap.objs.size) (Nat.le_refl _)
  exact ⟨Z, one s.heap.objs.size o, .refl Z, W.grow fun b ob e => Heap.get?_push_of_some _ e, one_in (Heap.get?_push_size _ hf), one_off hfree.1 hfree.2, hself, hS target⟩

theorem src_lst {target : Expr} {ds : List D} : Src prog w s₀ n target (.lst ds) ds := by
  refine src_of_push (o0 := fun _ => default) fun A Z R s v ok W i Q q => ?_
  obtain ⟨_, _, _, rfl, e, hz, ha⟩ := i.lst_inv
  ·
    rename_i l vs m
    have hl : s.heap.IsList l vs.toArray := ⟨_, W.frz _ _ e, rfl, _, rfl⟩
    refine wpAny_pyIter_list hl (q _ rfl (fun target => ?_) ?_)
    · have hne : l ≠ s.heap.objs.size := Nat.ne_of_lt (Heap.lt_size (W.frz _ _ e))
      refine stp_one (items := ds) (Z := Z) (fun i o => o.cls = .type "list_iterator" ∧ o.data = .fields #[.ref l, .int i 0]) (fun i o h => ⟨_, h.1, by decide⟩) ?_ ?_ (i := 0) rfl (Nat.zero_le _) ⟨rfl, rfl⟩ (.refl Z)
      · intro i d hx A Z' R s' o ok' le W' ho hG
        obtain ⟨x, hv, ix⟩ := ha.get hx
        have hl' : s'.heap.IsList l vs.toArray := ⟨_, W'.frz _ _ (le _ _ e), rfl, _, rfl⟩
        refine wpAny_pyNext_list_item (it := s.heap.objs.size) (i := i) ⟨o, ho, hG.1, hG.2⟩ hl' (x := x) (by simpa using hv) fun h' hit hs => ?_
        obtain ⟨o', ho', c1, c2⟩ := hit
        exact ⟨x, h', _, o', rfl, rfl, ix.mono le, hs.extBut, ho', c1, c2⟩
      · intro A Z' R s' o ok' le W' ho hG
        have hl' : s'.heap.IsList l vs.toArray := ⟨_, W'.frz _ _ (le _ _ e), rfl, _, rfl⟩
        refine wpAny_pyNext_list_end ok'.handled (it := s.heap.objs.size) (i := ds.length) ⟨o, ho, hG.1, hG.2⟩ hl' (by simp [ha.length]) fun h' he => ?_
        exact ⟨h', _, rfl, rfl, he⟩
    · intro A s' Q' E' hI q'
      exact wpAny_pyIter_listiter (i := 0) (l := l) ⟨_, one_at hI, rfl, rfl⟩ q'
theorem src_tup {target : Expr} {ds : List D} : Src prog w s₀ n target (.tup ds) ds := by
  refine src_of_push (o0 := fun _ => default) fun A Z R s v ok W i Q q => ?_
  obtain ⟨_, _, _, rfl, e, hz, ha⟩ := i.tup_inv
  ·
    rename_i l vs m
    have hl : s.heap.IsTuple l vs.toArray := ⟨_, W.frz _ _ e, rfl, _, rfl⟩
    refine wpAny_pyIter_tuple hl (q _ rfl (fun target => ?_) ?_)
    · have hne : l ≠ s.heap.objs.size := Nat.ne_of_lt (Heap.lt_size (W.frz _ _ e))
      refine stp_one (items := ds) (Z := Z) (fun i o => o.cls = .type "tuple_iterator" ∧ o.data = .fields #[.ref l, .int i 0]) (fun i o h => ⟨_, h.1, by decide⟩) ?_ ?_ (i := 0) rfl (Nat.zero_le _) ⟨rfl, rfl⟩ (.refl Z)
      · intro i d hx A Z' R s' o ok' le W' ho hG
        obtain ⟨x, hv, ix⟩ := ha.get hx
        have hl' : s'.heap.IsTuple l vs.toArray := ⟨_, W'.frz _ _ (le _ _ e), rfl, _, rfl⟩
        refine wpAny_pyNext_tuple_item (it := s.heap.objs.size) (i := i) ⟨o, ho, hG.1, hG.2⟩ hl' (x := x) (by simpa using hv) fun h' hit hs => ?_
        obtain ⟨o', ho', c1, c2⟩ := hit
        exact ⟨x, h', _, o', rfl, rfl, ix.mono le, hs.extBut, ho', c1, c2⟩
      · intro A Z' R s' o ok' le W' ho hG
        have hl' : s'.heap.IsTuple l vs.toArray := ⟨_, W'.frz _ _ (le _ _ e), rfl, _, rfl⟩
        refine wpAny_pyNext_tuple_end ok'.handled (it := s.heap.objs.size) (i := ds.length) ⟨o, ho, hG.1, hG.2⟩ hl' (by simp [ha.length]) fun h' he => ?_
        exact ⟨h', _, rfl, rfl, he⟩
    · intro A s' Q' E' hI q'
      exact wpAny_pyIter_tupleiter (i := 0) (t := l) ⟨_, one_at hI, rfl, rfl⟩ q'
theorem range_small {k : Nat} (hk : k ≤ 1000000) : Builtin.Range.small 0 k 1 = true ∧ Builtin.Range.rangeSize 0 k 1 = k := by
  have hs : Builtin.Range.rangeSize 0 k 1 = k := by
    unfold Builtin.Range.rangeSize
    simp
    omega
  refine ⟨?_, hs⟩
  unfold Builtin.Range.small
  rw [hs]
  simp [Builtin.Range.rangeFitsLong]
  omega
theorem src_rng {target : Expr} {k : Nat} (hk : k ≤ 1000000) : Src prog w s₀ n target (.rng k) ((List.range k).map fun (i : Nat) => D.int (i : Int)) := by
  refine src_of_push (o0 := fun _ => default) fun A Z R s v ok W i Q q => ?_
  obtain ⟨hsm, hsz⟩ := range_small hk
  obtain ⟨_, _, _, _, rfl, e⟩ := i.rng_inv
  ·
    rename_i l t u v
    refine wpAny_pyIter_range (W.frz _ _ e) hsm (q _ rfl (fun target => ?_) ?_)
    · refine stp_one (items := (List.range k).map fun (i : Nat) => D.int (i : Int)) (Z := Z) (fun i o => o = { cls := .type "range_iterator", dict := none, data := .fields #[rawInt i, rawInt ((k : Int) - i), rawInt 1], slots := #[] })
        (fun i o h => ⟨"range_iterator", by rw [h], by decide⟩) ?_ ?_ (i := 0) rfl (Nat.zero_le _) (by rw [hsz]; simp) (.refl Z)
      · intro i d hx A Z' R s' o ok' le W' ho hG
        subst hG
        rw [List.getElem?_map] at hx
        obtain ⟨j, hj, rfl⟩ := Option.map_eq_some_iff.mp hx
        obtain ⟨hlt, hji⟩ := List.getElem?_eq_some_iff.mp hj
        simp at hlt hji
        subst hji
        refine wpAny_pyNext_range_item (it := s.heap.objs.size) (x := i) (left := (k : Int) - i) (step := 1) ho (by omega) fun h' hit hs => ?_
        have e1 : ((i + 1 : Nat) : Int) = (i : Int) + 1 := by omega
        have e2 : (k : Int) - ((i + 1 : Nat) : Int) = (k : Int) - i - 1 := by omega
        exact ⟨_, h', _, _, rfl, rfl, .int _ _, hs.extBut, hit, by rw [e2, e1]⟩
      · intro A Z' R s' o ok' le W' ho hG
        subst hG
        refine wpAny_pyNext_range_end ok'.handled (it := s.heap.objs.size) (x := ((List.range k).map fun (i : Nat) => D.int (i : Int)).length) (left := (k : Int) - ((List.range k).map fun (i : Nat) => D.int (i : Int)).length) (step := 1) ho (by simp) fun h' he => ?_
        exact ⟨h', _, rfl, rfl, he⟩
    · intro A s' Q' E' hI q'
      exact wpAny_pyIter_rangeiter (one_at hI) q'
theorem src_dct {target : Expr} {kds : List (Str × D)} : Src prog w s₀ n target (.dct kds) (kds.map fun kd => .str kd.1) := by
  refine src_of_push (o0 := fun _ => default) fun A Z R s v ok W i Q q => ?_
  obtain ⟨_, _, _, rfl, e, hm, hz, he, hn⟩ := i.dct_inv
  ·
    rename_i l es m
    obtain ⟨kvs, p, hkk, ks, h1, h2, hlen, h3⟩ := he.split
    have hda : ∀ h : Heap, FX Z h → h.DictAt (strKind prog w) l kvs m := fun h hI => ⟨_, es.toArray, hI _ _ e (by intro q; cases q), ⟨rfl, rfl, rfl⟩, rfl, ks, by simpa using p, hkk ▸ hn⟩
    refine wpAny_pyIter_dict hm (hda _ W.fx) (q _ rfl (fun target => ?_) ?_)
    · refine stp_one (items := kds.map fun kd => D.str kd.1) (Z := Z) (fun i o => o.cls = .type "dict_keyiterator" ∧ o.data = .fields #[.ref l, .int i 0, .int kvs.length 0, .int m 0])
        (fun i o h => ⟨_, h.1, by decide⟩) ?_ ?_ (i := 0) rfl (Nat.zero_le _) ⟨rfl, rfl⟩ (.refl Z)
      · intro i d hx A Z' R s' o ok' le W' ho hG
        rw [List.getElem?_map] at hx
        obtain ⟨kd, hkd, rfl⟩ := Option.map_eq_some_iff.mp hx
        have hk1 : (kvs.map (·.1))[i]? = some kd.1 := by rw [hkk, List.getElem?_map, hkd]; rfl
        rw [List.getElem?_map] at hk1
        obtain ⟨kv, hkv, hkv1⟩ := Option.map_eq_some_iff.mp hk1
        refine wpAny_pyNext_dict_item (it := s.heap.objs.size) (i := i) (k := kv.1) (v := kv.2) ⟨o, ho, hG.1, hG.2⟩ (hda _ fun a ob e' hn => W'.frz _ _ (le _ _ e') hn) hkv fun key h' hkey hit hs => ?_
        obtain ⟨o', ho', c1, c2⟩ := hit
        obtain ⟨t, rfl⟩ := Value.isStrOf_shape hkey
        exact ⟨_, h', _, o', rfl, rfl, hkv1 ▸ .str _ _, hs.extBut, ho', c1, c2⟩
      · intro A Z' R s' o ok' le W' ho hG
        refine wpAny_pyNext_dict_end ok'.handled (it := s.heap.objs.size) (i := (kds.map fun kd => D.str kd.1).length) ⟨o, ho, hG.1, hG.2⟩ (hda _ fun a ob e' hn => W'.frz _ _ (le _ _ e') hn) (by simp [hlen]) fun h' he => ?_
        exact ⟨h', _, rfl, rfl, he⟩
    · intro A s' Q' E' hI q'
      exact wpAny_pyIter_keyiter (i := 0) (d := l) (n := kvs.length) (ep := m) ⟨_, one_at hI, rfl, rfl⟩ q'
theorem src_vls {target : Expr} {kds : List (Str × D)} : Src prog w s₀ n target (.vls kds) (kds.map (·.2)) := by
  refine src_of_push (o0 := fun _ => default) fun A Z R s v ok W i Q q => ?_
  obtain ⟨_, _, rfl, ev, id⟩ := i.vls_inv
  ·
    obtain ⟨_, _, e, hm, hz, he, hn⟩ := id.dct_ref
    rename_i v l es m
    obtain ⟨kvs, p, hkk, ks, h1, h2, hlen, h3⟩ := he.split
    have hda : ∀ h : Heap, FX Z h → h.DictAt (strKind prog w) l kvs m := fun h hI => ⟨_, es.toArray, hI _ _ e (by intro q; cases q), ⟨rfl, rfl, rfl⟩, rfl, ks, by simpa using p, hkk ▸ hn⟩
    refine wpAny_pyIter_values ⟨_, W.frz _ _ ev, rfl, rfl⟩ (hda _ W.fx) (q _ rfl (fun target => ?_) ?_)
    · refine stp_one (items := kds.map (·.2)) (Z := Z) (fun i o => o.cls = .type "dict_valueiterator" ∧ o.data = .fields #[.ref l, .int i 0, .int kvs.length 0, .int m 0])
        (fun i o h => ⟨_, h.1, by decide⟩) ?_ ?_ (i := 0) rfl (Nat.zero_le _) ⟨rfl, rfl⟩ (.refl Z)
      · intro i d hx A Z' R s' o ok' le W' ho hG
        obtain ⟨x, hv, ix⟩ := h3.get hx
        rw [List.getElem?_map] at hv
        obtain ⟨kv, hkv, rfl⟩ := Option.map_eq_some_iff.mp hv
        refine wpAny_pyNext_values_item (it := s.heap.objs.size) (i := i) (k := kv.1) (v := kv.2) ⟨o, ho, hG.1, hG.2⟩ (hda _ fun a ob e' hn => W'.frz _ _ (le _ _ e') hn) hkv fun h' hit hs => ?_
        obtain ⟨o', ho', c1, c2⟩ := hit
        exact ⟨_, h', _, o', rfl, rfl, ix.mono le, hs.extBut, ho', c1, c2⟩
      · intro A Z' R s' o ok' le W' ho hG
        refine wpAny_pyNext_values_end ok'.handled (it := s.heap.objs.size) (i := (kds.map (·.2)).length) ⟨o, ho, hG.1, hG.2⟩ (hda _ fun a ob e' hn => W'.frz _ _ (le _ _ e') hn) (by simp [hlen]) fun h' he => ?_
        exact ⟨h', _, rfl, rfl, he⟩
    · intro A s' Q' E' hI q'
      exact wpAny_pyIter_valiter (i := 0) (d := l) (n := kvs.length) (ep := m) ⟨_, one_at hI, rfl, rfl⟩ q'

/-- the items of a dict, handed to a pair of names -/
theorem stp_items {elts : List Expr} {tk : Nat} {tp : Pos} {it l : Addr} {kds : List (Str × D)} {kvs : List (Str × Value)} {ep : Nat} {Z : Fz} (hda : ∀ h : Heap, FX Z h → h.DictAt (strKind prog w) l kvs ep) (hkk : kvs.map (·.1) = kds.map (·.1)) (hlen : kvs.length = kds.length)
    (h3 : IsAll (hsOf prog w) Z (kvs.map (·.2)) (kds.map (·.2))) :
    ∀ {rest : List (Str × D)} {i : Nat} {ok ov : Value} {Z1 : Fz}, kds.drop i = rest → i ≤ kds.length → FLe Z Z1 →
      Stp prog w s₀ n (.Tuple elts tk tp) (.ref it) (rest.map fun kd => .tup [.str kd.1, kd.2]) Z1 (one it { cls := .type "dict_itemiterator", dict := none, data := .fields #[.none, .bool false, .ref l, .int i 0, .int kvs.length 0, .int ep 0, ok, ov], slots := #[] }) := by
  intro rest
  induction rest with
  | nil =>
    intro i ok ov Z1 hd hi hz A Z' R s okk le W hI ho
    have hi' : i = kds.length := by
      have := congrArg List.length hd
      simp at this; omega
    subst hi'
    unfold nextGo
    refine wpAny_bind (wpAny_pyNext_items_end okk.handled (one_at hI) (hda _ fun a ob e' hn => W.frz _ _ (le _ _ (hz _ _ e')) hn) (by rw [List.getElem?_eq_none_iff]; omega) fun h' he => ?_)
    exact wpAny_pure ⟨rfl, W.but (tk := s.toks) (· = it) (fun a e => e ▸ ho _ _ (by simp [one]; rfl)) fun b ob hb e => he b ob hb e⟩
  | cons d ds ih =>
    intro i ok ov Z1 hd hi hz A Z' R s okk le W hI ho
    have hx : kds[i]? = some d := by
      have := congrArg (fun l => l[0]?) hd
      simpa using this
    have hlt : i < kds.length := (List.getElem?_eq_some_iff.mp hx).1
    have hd' : kds.drop (i + 1) = ds := by
      have := congrArg List.tail hd
      simpa using this
    have hkv : ∃ kv, kvs[i]? = some kv ∧ kv.1 = d.1 ∧ Is (hsOf prog w) Z kv.2 d.2 := by
      have h2 : (kds.map (·.2))[i]? = some d.2 := by rw [List.getElem?_map, hx]; rfl
      obtain ⟨x, hv, ix⟩ := h3.get h2
      rw [List.getElem?_map] at hv
      obtain ⟨kv, hkv, rfl⟩ := Option.map_eq_some_iff.mp hv
      have h1 : (kvs.map (·.1))[i]? = some d.1 := by rw [hkk, List.getElem?_map, hx]; rfl
      rw [List.getElem?_map, hkv] at h1
      exact ⟨kv, hkv, by simpa using h1, ix⟩
    obtain ⟨kv, hkv, hk1, iv⟩ := hkv
    unfold nextGo
    have hoff := ho it _ (by simp [one]; rfl)
    refine wpAny_bind (wpAny_pyNext_items_item (k := kv.1) (v := kv.2) (one_at hI) (hda _ fun a ob e' hn => W.frz _ _ (le _ _ (hz _ _ e')) hn) hkv fun key h' hkey hit htup hsz hkeep => ?_)
    obtain ⟨t, rfl⟩ := Value.isStrOf_shape hkey
    dsimp only
    refine wpAny_bind (wpAny_letOwnedTupleGo_items hit fun h'' hit' hs' => ?_)
    have hitlt : it < s.heap.objs.size := Heap.lt_size (one_at hI)
    have hne : s.heap.objs.size ≠ it := Nat.ne_of_gt hitlt
    have htup' : h''.get? s.heap.objs.size = some (tupO [.str kv.1 t, kv.2] 0) := hs'.extBut _ _ hne htup
    have W1 : Wd s₀ Z' R { s with heap := h'' } := W.but (tk := s.toks) (· = it) (fun a e => e ▸ hoff) fun b ob hb e => hs'.extBut _ _ hb (hkeep b ob hb e)
    have hfree := W.none_of_ge (a := s.heap.objs.size) (Nat.le_refl _)
    have W2 := W1.addZ hfree.1 hfree.2 htup'
    have le2 : FLe Z' (fset Z' s.heap.objs.size (tupO [.str kv.1 t, kv.2] 0)) := fle_fset hfree.1
    refine wpAny_pure ⟨_, fset Z' s.heap.objs.size (tupO [.str kv.1 t, kv.2] 0), one it _, rfl, le2, W2, ?_, one_in hit', one_off (by rw [fset_ne (Ne.symm hne)]; exact hoff.1) hoff.2, ih hd' hlt ((hz.trans le).trans le2)⟩
    exact .tup fset_self (by simp [sizeLine_eq]) (.cons (hk1 ▸ .str _ _) (.cons (iv.mono ((hz.trans le).trans le2)) .nil))
end Mine
namespace Mine
open PySem PySem.Calls PySem.W PyProof.Rows
variable {prog : Program} {w : World} {s₀ : Shared} {n : Nat} {env : Env} {σ : Sto}

/-! what an expression gives to a loop -/
def SrcE (prog : Program) (w : World) (s₀ : Shared) (n : Nat) (env : Env) (σ : Sto) (target iter : Expr) (items : List D) : Prop :=
  ∀ A Z R s, Ok n A → Wd s₀ Z R s → Rd (hsOf prog w) env Z R σ → wpAny (model prog w) A (eval iter env) (fun v s1 => wpAny (model prog w) A (pyIter v)
    (fun it s2 => ∃ Z' I, FLe Z Z' ∧ Wd s₀ Z' R s2 ∧ FIn I s2.heap ∧ IOff I Z' R ∧ Stp prog w s₀ n target it items Z' I) nope s1) nope s
theorem ex_forE {target iter : Expr} {body : List Stmt} {pos : Pos} {items : List D} {o : Out} (hi : SrcE prog w s₀ n env σ target iter items) (hF : ForT prog w s₀ n env target body items σ o)
    (hfs : ∀ x, foldedSetIterable iter env x = pure x := by intro _; rfl) : Ex prog w s₀ n env σ (exec (.For target iter body [] pos) env) o := by
  intro A Z R Y s ok W P
  refine wpAny_For (wpAny_mono (hi A Z _ s ok W P.read) ?_ fun _ _ x => x) hfs
  intro v s1 h1
  refine wpAny_mono h1 ?_ fun _ _ x => x
  rintro it s2 ⟨Z2, I, l2, W2, hI, ho, hS⟩
  refine codeAny_mono (exc_for hF A Z2 R Y I s2 ok W2 (P.monoZ l2) hI ho hS) ?_
  rintro r s3 ⟨f, rfl, p⟩
  exact p.mono l2

/-! blocks of their own: comprehensions -/
theorem Wd.setR {s : Shared} {Z R : Fz} (W : Wd s₀ Z R s) {a : Addr} {o o' : Obj} (hy : R a = some o) {h' : Heap} {tk : Nat} (hs : Heap.SameBut a s.heap h') (ho : h'.get? a = some o') :
    Wd s₀ Z (fset R a o') { s with heap := h', toks := tk } := by
  have hz : Z a = none := W.off a o hy
  refine ⟨W.base, fun b ob e => ?_, fun b ob e => ?_, fun b ob e => ?_, W.os, W.bare⟩
  · have hb : b ≠ a := fun q => by subst q; rw [hz] at e; cases e
    exact (W.cur b ob e).keep fun o' e' => (hs.2 b hb).trans e'
  · by_cases hb : b = a
    · subst hb; rw [fset_self] at e; cases e; exact ho
    · rw [fset_ne hb] at e; exact (hs.2 b hb).trans (W.rest b ob e)
  · by_cases hb : b = a
    · subst hb; exact hz
    · rw [fset_ne hb] at e; exact W.off b ob e
theorem Wd.joinI {s : Shared} {Z R I : Fz} (W : Wd s₀ Z R s) (hI : FIn I s.heap) (ho : IOff I Z R) : Wd s₀ Z (forr I R) s := by
  refine ⟨W.base, W.cur, fun a o e => ?_, fun a o e => ?_, W.os, W.bare⟩
  · rcases forr_cases e with q | q
    · exact hI _ _ q
    · exact W.rest _ _ q
  · rcases forr_cases e with q | q
    · exact (ho _ _ q).1
    · exact W.off _ _ q
theorem Wd.splitI {s : Shared} {Z R I : Fz} (W : Wd s₀ Z (forr I R) s) (h : ∀ a o, I a = some o → R a = none) : Wd s₀ Z R s ∧ FIn I s.heap ∧ IOff I Z R :=
  ⟨W.subR (fle_forr_r h), fun a o e => W.rest _ _ (fle_forr _ _ e), fun a o e => ⟨W.off _ _ (fle_forr _ _ e), h a o e⟩⟩

structure CF (cenv : Env) (x : Str) (R0 R : Fz) : Prop where
  fr : ∃ o m, R cenv.locals = some o ∧ NsObj o m
  fr0 : R0 cenv.locals = none
  nm : cenv.kindOf x = some .local ∨ (cenv.kindOf x = some .cell ∧ ∃ c o v, cenv.cells.lookup x = some c ∧ R c = some o ∧ o.data = .cell v ∧ c ≠ cenv.locals ∧ R0 c = none)
theorem cf_store {cenv : Env} {A : Around} {Z R0 R : Fz} {s : Shared} {x : Str} {v : Value} (O : EnvOk cenv) (W : Wd s₀ Z R s) (F : CF cenv x R0 R) :
    wpAny (model prog w) A (storeName cenv x v) (fun _ s' => ∃ a o o', R a = some o ∧ ((∃ m, NsObj o m) ∨ ∃ u, o.data = .cell u) ∧ R0 a = none ∧ Wd s₀ Z (fset R a o') s' ∧ CF cenv x R0 (fset R a o') ∧ Slot' cenv (fset R a o') x v ∧
      Heap.SameBut a s.heap s'.heap) nope s := by
  obtain ⟨oL, m, hoL, hm⟩ := F.fr
  rcases F.nm with hk | ⟨hk, c, o, u, hc, hyc, hdc, hcL, hc0⟩
  · refine wpAny_storeName_local hk (hm.ns (W.rest _ _ hoL)) (fun h' hn' hs' => ?_) (by rw [O.fn]; rfl)
    obtain ⟨o', ho', hno'⟩ := nsObj_of hn'
    exact ⟨cenv.locals, oL, o', hoL, .inl ⟨m, hm⟩, F.fr0, W.setR hoL hs' ho', ⟨⟨o', _, fset_self, hno'⟩, F.fr0, .inl hk⟩, .inl ⟨hk, o', _, fset_self, hno', by simp⟩, hs'⟩
  · refine wpAny_storeName_cell O.fn hk hc ⟨o, W.rest _ _ hyc, hdc⟩ (fun h' hc' hs' => ?_)
    obtain ⟨o', ho', hd'⟩ := hc'
    exact ⟨c, o, o', hyc, .inr ⟨_, hdc⟩, hc0, W.setR (tk := s.toks) hyc hs' ho', ⟨⟨oL, m, by rw [fset_ne (Ne.symm hcL)]; exact hoL, hm⟩, F.fr0, .inr ⟨hk, c, o', _, hc, fset_self, hd', hcL, hc0⟩⟩,
      .inr ⟨.inl hk, c, o', hc, fset_self, hd'⟩, hs'⟩

def tests (ifs : List Expr) (cenv : Env) : Sem Bool := forIn ifs true fun c r => if r = true then do let ok ← isTrue c cenv (eval c cenv); pure (ForInStep.yield ok) else pure (ForInStep.yield r)
theorem tests_nil {cenv : Env} : EvB prog w s₀ n cenv σ (tests [] cenv) true := fun A Z R s ok W S => wpAny_tests_nil ⟨rfl, Z, .refl Z, W⟩
theorem tests_one {cenv : Env} {c : Expr} {b : Bool} (h : EvB prog w s₀ n cenv σ (isTrue c cenv (eval c cenv)) b) : EvB prog w s₀ n cenv σ (tests [c] cenv) b := fun A Z R s ok W S => wpAny_tests_one (h A Z R s ok W S)

def CompT (prog : Program) (w : World) (s₀ : Shared) (n : Nat) (cenv : Env) (σf : Sto) (x : Str) (ifs : List Expr) (elt : Expr) : List D → List D → Prop
  | [], rs => rs = []
  | d :: ds, rs => (EvB prog w s₀ n cenv ((x, .val d) :: σf) (tests ifs cenv) false ∧ CompT prog w s₀ n cenv σf x ifs elt ds rs) ∨
      (EvB prog w s₀ n cenv ((x, .val d) :: σf) (tests ifs cenv) true ∧ ∃ r rs', rs = r :: rs' ∧ Ev prog w s₀ n cenv ((x, .val d) :: σf) (eval elt cenv) r ∧ CompT prog w s₀ n cenv σf x ifs elt ds rs')

def RdF (hs : Str → Int) (cenv : Env) (Z R0 : Fz) (x : Str) (σf : Sto) : Prop := ∀ y lv, σf.lookup y = some lv → y ≠ x ∧ ∃ v d, lv = .val d ∧ Slot' cenv R0 y v ∧ Is hs Z v d
theorem RdF.rd {hs : Str → Int} {cenv : Env} {Z R0 R : Fz} {x : Str} {v : Value} {d : D} {σf : Sto} (h : RdF hs cenv Z R0 x σf) (hl : FLe R0 R) (hx : Slot' cenv R x v) (i : Is hs Z v d) : Rd hs cenv Z R ((x, .val d) :: σf) := by
  intro y lv e
  rw [List.lookup_cons] at e
  by_cases hy : y = x
  · subst hy
    simp at e; subst e
    exact ⟨v, hx, i⟩
  · have : (y == x) = false := beq_eq_false_iff_ne.mpr hy
    rw [this] at e
    obtain ⟨_, v', d', rfl, a, b⟩ := h y lv e
    exact ⟨v', a.mono hl, b⟩
theorem RdF.mono {hs : Str → Int} {cenv : Env} {Z Z' R0 : Fz} {x : Str} {σf : Sto} (h : RdF hs cenv Z R0 x σf) (l : FLe Z Z') : RdF hs cenv Z' R0 x σf := fun y lv e => by
  obtain ⟨a, v, d, b, c, e'⟩ := h y lv e
  exact ⟨a, v, d, b, c, e'.mono l⟩

/-- how the loop of a list comprehension ends -/
def CompEnd (prog : Program) (w : World) (s₀ : Shared) (cenv : Env) (x : Str) (Z R0 : Fz) (D0 : Addr) (rs : List D) (r : Result) (s' : Shared) : Prop :=
  r = .ok .next ∧ ∃ Z' R' vs m, FLe Z Z' ∧ FLe R0 R' ∧ Wd s₀ Z' R' s' ∧ CF cenv x R0 R' ∧ R' D0 = some (lstO vs m) ∧ IsAll (hsOf prog w) Z' vs rs
theorem fle_fset_of {R0 R : Fz} {a : Addr} {o : Obj} (h : FLe R0 R) (h0 : R0 a = none) : FLe R0 (fset R a o) := fun b ob e => by
  by_cases hb : b = a
  · subst hb; rw [h0] at e; cases e
  · rw [fset_ne hb]; exact h _ _ e
theorem fin_same {I : Fz} {a : Addr} {h h' : Heap} (hI : FIn I h) (hs : Heap.SameBut a h h') (ha : I a = none) : FIn I h' := fun b o e => by
  have hb : b ≠ a := fun q => by subst q; rw [ha] at e; cases e
  exact (hs.2 b hb).trans (hI b o e)
theorem ioff_none {I Z R : Fz} (h : IOff I Z R) {a : Addr} {o : Obj} (e : R a = some o) : I a = none := by
  cases q : I a with
  | none => rfl
  | some o' => have := (h a o' q).2; rw [e] at this; cases this
theorem ioff_fset {I Z R : Fz} (h : IOff I Z R) {a : Addr} {o : Obj} (ha : I a = none) : IOff I Z (fset R a o) := fun b ob e => by
  have hb : b ≠ a := fun q => by subst q; rw [ha] at e; cases e
  rw [fset_ne hb]; exact h b ob e
theorem Stp.mono {target : Expr} {it : Value} {ds : List D} {Z Z' I : Fz} (h : Stp prog w s₀ n target it ds Z I) (l : FLe Z Z') : Stp prog w s₀ n target it ds Z' I := by
  cases ds with
  | nil => exact fun A Z'' R s ok l' W hI ho => h A Z'' R s ok (l.trans l') W hI ho
  | cons d ds => exact fun A Z'' R s ok l' W hI ho => h A Z'' R s ok (l.trans l') W hI ho
theorem lst_push {vs : List Value} {m : Nat} {v : Value} : Obj.mapSeq (·.push v) (lstO vs m) = lstO (vs ++ [v]) (m + 1) := by
  simp [Obj.mapSeq, lstO]

theorem exc_comp {cenv : Env} {σf : Sto} {x : Str} {px : Pos} {ifs : List Expr} {elt iter : Expr} {scope : Scope} {pos : Pos} {it : Value} {D0 : Addr} {R0 : Fz} (O : EnvOk cenv) (h00 : R0 D0 = none) : ∀ {items rs done : List D}, CompT prog w s₀ n cenv σf x ifs elt items rs → (done ++ rs).length ≤ sizeLine →
    ∀ A Z R I s vs m, Ok n A → Wd s₀ Z R s → CF cenv x R0 R → FLe R0 R → RdF (hsOf prog w) cenv Z R0 x σf → R D0 = some (lstO vs m) → IsAll (hsOf prog w) Z vs done → FIn I s.heap → IOff I Z R → Stp prog w s₀ n (.Name x px) it items Z I →
      codeAny (model prog w) A (.compLoop (.ListComp elt [⟨.Name x px, iter, ifs, 0⟩] scope pos) 0 it (.ref D0) cenv) (CompEnd prog w s₀ cenv x Z R0 D0 (done ++ rs)) s := by
  intro items
  induction items with
  | nil =>
    intro rs done hT hz A Z R I s vs m ok W F hl hR hD hall hI ho hS
    have hT : rs = [] := hT
    subst hT
    refine codeAny_of_tree ?_
    show wpAny _ A ((compTurn (.ListComp elt [⟨.Name x px, iter, ifs, 0⟩] scope pos) 0 it (.ref D0) cenv).onRaise (fun x => do noteFrame x cenv; theTreesLotGoes x)) _ _ s
    refine wpAny_noted (noE ?_)
    rw [compTurn_list]
    refine wpAny_bind (wpAny_standAt ?_)
    have h1 : wpAny (model prog w) A (nextGo (.Name x px) it) (fun r s' => r = none ∧ Wd s₀ Z R s') nope s := hS A Z _ s ok (.refl Z) W hI ho
    refine bind_nextGo (Q := fun _ _ => True) (wpAny_mono h1 ?_ fun _ _ x => x)
    rintro r s1 ⟨rfl, W1⟩
    exact wpAny_pure ⟨rfl, Z, R, vs, m, .refl Z, hl, W1, F, hD, by simpa using hall⟩
  | cons d ds ih =>
    intro rs done hT hz A Z R I s vs m ok W F hl hR hD hall hI ho hS
    refine codeAny_of_tree ?_
    show wpAny _ A ((compTurn (.ListComp elt [⟨.Name x px, iter, ifs, 0⟩] scope pos) 0 it (.ref D0) cenv).onRaise (fun x => do noteFrame x cenv; theTreesLotGoes x)) _ _ s
    refine wpAny_noted (noE ?_)
    rw [compTurn_list]
    refine wpAny_bind (wpAny_standAt ?_)
    have h1 : wpAny (model prog w) A (nextGo (.Name x px) it) (fun r s' => ∃ v Z'' I', r = some v ∧ FLe Z Z'' ∧ Wd s₀ Z'' R s' ∧ Is (hsOf prog w) Z'' v d ∧ FIn I' s'.heap ∧ IOff I' Z'' R ∧ Stp prog w s₀ n (.Name x px) it ds Z'' I') nope s := hS A Z _ s ok (.refl Z) W hI ho
    refine bind_nextGo (Q := fun _ _ => True) (wpAny_mono h1 ?_ fun _ _ x => x)
    rintro r s1 ⟨v, Z1, I1, rfl, l1, W1, i1, hI1, ho1, hS1⟩
    dsimp only
    refine wpAny_bind (wpAny_assign_Name (wpAny_mono (cf_store O W1 F (x := x) (v := v)) ?_ fun _ _ x => x))
    rintro _ s2 ⟨a, oa, oa', ha, hseq, ha0, W2, F2, hx2, hsame⟩
    have hIa := ioff_none ho1 ha
    have hI2 := fin_same hI1 hsame hIa
    have ho2 := ioff_fset (o := oa') ho1 hIa
    have hDa : D0 ≠ a := fun q => by
      subst q; rw [hD] at ha; cases ha
      rcases hseq with ⟨mm, es, ep, hd, _⟩ | ⟨u, hd⟩ <;> cases hd
    have hl2 : FLe R0 (fset R a oa') := fle_fset_of hl ha0
    have hD2 : fset R a oa' D0 = some (lstO vs m) := by rw [fset_ne hDa]; exact hD
    have W2' := W2.joinI hI2 ho2
    have hIR : ∀ b o, I1 b = some o → fset R a oa' b = none := fun b o e => (ho2 b o e).2
    have hR1 := hR.mono l1
    have S2 : Rd (hsOf prog w) cenv Z1 (forr I1 (fset R a oa')) ((x, .val d) :: σf) := hR1.rd (hl2.trans (fle_forr_r hIR)) (hx2.mono (fle_forr_r hIR)) i1
    rcases hT with ⟨ht, hT⟩ | ⟨ht, r, rs', rfl, he, hT⟩
    · refine wpAny_bind (wpAny_mono (ht A Z1 _ s2 ok W2' S2) ?_ fun _ _ x => x)
      rintro b s3 ⟨rfl, Z3, l3, W3⟩
      obtain ⟨W3, hI3, ho3⟩ := W3.splitI hIR
      refine wpAny_pure (And.intro rfl (codeAny_mono (ih hT hz A Z3 _ I1 s3 vs m ok W3 F2 hl2 (hR1.mono l3) hD2 (hall.mono (l1.trans l3)) hI3 ho3 (hS1.mono l3)) ?_))
      rintro q s4 ⟨e1, Z4, R4, vs4, m4, l4, r4⟩
      exact ⟨e1, Z4, R4, vs4, m4, (l1.trans l3).trans l4, r4⟩
    · refine wpAny_bind (wpAny_mono (ht A Z1 _ s2 ok W2' S2) ?_ fun _ _ x => x)
      rintro b s3 ⟨rfl, Z3, l3, W3⟩
      refine wpAny_bind ?_
      refine wpAny_bind (wpAny_mono (he A Z3 _ s3 ok W3 (S2.mono l3 (.refl _))) ?_ fun _ _ x => x)
      rintro u s4 ⟨Z4, l4, W4, i4⟩
      obtain ⟨W4, hI4, ho4⟩ := W4.splitI hIR
      have hg := W4.rest _ _ hD2
      have hvl := hall.length
      have hlen : vs.length < sizeLine := by
        rw [List.length_append, List.length_cons] at hz; omega
      refine wpAny_bind (append_at hg (fun h' hsb hnew => ?_) (by rw [List.size_toArray]; exact Nat.le_of_lt hlen))
      have hnew' : h'.get? D0 = some (lstO (vs ++ [u]) (m + 1)) := by rw [hnew]; simp
      have W5 := W4.setR (tk := s4.toks) hD2 hsb hnew'
      have hID := ioff_none ho4 hD2
      obtain ⟨oL, mL, hoL, hmL⟩ := F2.fr
      have hCD : cenv.locals ≠ D0 := fun q => by
        rw [q, hD2] at hoL; cases hoL
        obtain ⟨es, ep, hd, _⟩ := hmL
        cases hd
      have F5 : CF cenv x R0 (fset (fset R a oa') D0 (lstO (vs ++ [u]) (m + 1))) := by
        refine ⟨⟨oL, mL, by rw [fset_ne hCD]; exact hoL, hmL⟩, F2.fr0, ?_⟩
        rcases F2.nm with q | ⟨q, c, oc, uc, c1, c2, c3, c4, c5⟩
        · exact .inl q
        · refine .inr ⟨q, c, oc, uc, c1, ?_, c3, c4, c5⟩
          have : c ≠ D0 := fun q' => by
            rw [q', hD2] at c2; cases c2
            cases c3
          rw [fset_ne this]; exact c2
      refine wpAny_pure (wpAny_pure (And.intro rfl (codeAny_mono (ih (done := done ++ [r]) hT (by simpa using hz) A Z4 _ I1 _ (vs ++ [u]) (m + 1) ok W5 F5 (fle_fset_of hl2 h00) ((hR1.mono l3).mono l4) fset_self ((hall.mono ((l1.trans l3).trans l4)).append (.one i4))
        (fin_same hI4 hsb hID) (ioff_fset ho4 hID) (hS1.mono (l3.trans l4))) ?_)))
      rintro q s6 ⟨e1, Z6, R6, vs6, m6, l6, r1, r2, r3, r4, r5⟩
      exact ⟨e1, Z6, R6, vs6, m6, ((l1.trans l3).trans l4).trans l6, r1, r2, r3, r4, by simpa using r5⟩
end Mine
namespace Mine
open PySem PySem.Calls PySem.W PyProof.Rows
variable {prog : Program} {w : World} {s₀ : Shared} {n : Nat} {env : Env} {σ : Sto}

theorem cellsFrom_other {y : Str} : ∀ {names : List (Str × NameKind)} {j : Nat} {acc : List (Str × Addr)}, (∀ z ∈ names, z.1 = y → z.2 ≠ .cell) → (cellsFrom j names acc).lookup y = acc.lookup y
  | [], _, _, _ => rfl
  | (z, k) :: r, j, acc, h => by
    unfold cellsFrom
    have hr : ∀ z ∈ r, z.1 = y → z.2 ≠ .cell := fun z hz => h z (List.mem_cons_of_mem _ hz)
    split
    · rename_i hk
      rw [cellsFrom_other hr]
      have : z ≠ y := fun e => h (z, k) List.mem_cons_self e (by simpa using hk)
      have hb : (y == z) = false := beq_eq_false_iff_ne.mpr (Ne.symm this)
      rw [List.lookup_cons, hb]
    · exact cellsFrom_other hr
theorem cellsFrom_mine {x : Str} : ∀ {names : List (Str × NameKind)} {h : Heap} {acc : List (Str × Addr)}, (x, .cell) ∈ names →
    ∃ c, (cellsFrom h.objs.size names acc).lookup x = some c ∧ h.objs.size ≤ c ∧ (pushCells h names).get? c = some { cls := .type "cell", data := .cell none }
  | (z, k) :: r, h, acc, hm => by
    unfold cellsFrom pushCells
    by_cases hr : (x, .cell) ∈ r
    · split
      · have := cellsFrom_mine (h := h.push { cls := .type "cell", data := .cell none }) (acc := (z, h.objs.size) :: acc) hr
        rw [Heap.size_push] at this
        obtain ⟨c, a, b, d⟩ := this
        exact ⟨c, a, Nat.le_of_succ_le b, d⟩
      · exact cellsFrom_mine hr
    · rcases List.mem_cons.mp hm with e | e
      · cases e
        rw [if_pos (by rfl), if_pos (by rfl)]
        refine ⟨h.objs.size, ?_, Nat.le_refl _, pushCells_keeps _ _ _ _ (Heap.get?_push_size _ rfl)⟩
        rw [cellsFrom_other (fun z hz e1 e2 => hr (by obtain ⟨z1, z2⟩ := z; cases e1; cases e2; exact hz))]
        simp
      · exact (hr e).elim
def closL (env : Env) : List (Str × NameKind) → List (Str × Addr) → List (Str × Addr)
  | [], acc => acc
  | (y, k) :: r, acc => if k == .free then closL env r ((y, (env.cells.lookup y).getD 0) :: acc) else closL env r acc
theorem closL_lookup {y : Str} {c : Addr} (hc : env.cells.lookup y = some c) : ∀ {names : List (Str × NameKind)} {acc : List (Str × Addr)}, (y, .free) ∈ names ∨ acc.lookup y = some c → (closL env names acc).lookup y = some c
  | [], acc, h => by
    rcases h with h | h
    · cases h
    · exact h
  | (z, k) :: r, acc, h => by
    unfold closL
    split
    · rename_i hk
      by_cases hz : y = z
      · subst hz
        exact closL_lookup hc (.inr (by simp [hc]))
      · have hb : (y == z) = false := beq_eq_false_iff_ne.mpr hz
        rcases h with h | h
        · rcases List.mem_cons.mp h with e | e
          · exact (hz (Prod.mk.inj e).1).elim
          · exact closL_lookup hc (.inl e)
        · exact closL_lookup hc (.inr (by rw [List.lookup_cons, hb]; exact h))
    · rename_i hk
      rcases h with h | h
      · rcases List.mem_cons.mp h with e | e
        · cases e; exact (hk (by rfl)).elim
        · exact closL_lookup hc (.inl e)
      · exact closL_lookup hc (.inr h)
theorem closureFor_eq {scope : Scope} (h : ∀ y, (y, NameKind.free) ∈ scope.names → ∃ c, env.cells.lookup y = some c) : closureFor scope env = pure (closL env scope.names []) := by
  have key : ∀ (names : List (Str × NameKind)) (acc : List (Str × Addr)), (∀ y, (y, NameKind.free) ∈ names → ∃ c, env.cells.lookup y = some c) →
      (forIn names acc fun x r => if (x.2 == NameKind.free) = true then do let a ← cellOf env x.1; pure (ForInStep.yield ((x.1, a) :: r)) else pure (ForInStep.yield r) : Sem (List (Str × Addr))) = pure (closL env names acc) := by
    intro names
    induction names with
    | nil => intro acc _; rfl
    | cons a r ih =>
      obtain ⟨z, k⟩ := a
      intro acc h
      rw [List.forIn_cons]
      have hr := fun y hy => h y (List.mem_cons_of_mem _ hy)
      unfold closL
      by_cases hk : (k == NameKind.free) = true
      · have hk' : k = .free := by simpa using hk
        subst hk'
        obtain ⟨c, hc⟩ := h z List.mem_cons_self
        simp only [hk, if_true, cellOf, hc, pure_bind, Option.getD_some]
        exact ih _ hr
      · simp only [hk, if_false, Bool.false_eq_true, pure_bind]
        exact ih _ hr
  have := key scope.names [] h
  unfold closureFor
  simpa using this

/-- what a block's own frame is -/
theorem block_env {A : Around} {scope : Scope} {cl : List (Str × Addr)} {s : Shared} {Q : Env → Shared → Prop} {E : Value → Shared → Prop}
    (h : Q { scope := scope, locals := s.heap.objs.size, globals := env.globals, cells := cellsFrom (s.heap.objs.size + 1) scope.names cl, qual := env.qual, func := none, code := env.code, frame := env.frame, builtins := env.builtins }
      { s with heap := pushCells (s.heap.push { cls := .type "dict", data := .dict #[] }) scope.names }) :
    wpAny (model prog w) A (newFunctionEnv scope env.globals cl [] env.qual none .none (some env)) Q E s := by
  simp only [newFunctionEnv, Option.isSome_some, if_true]
  refine wpAny_bind (wpAny_alloc ?_)
  refine wpAny_bind (wpAny_layCells _ (fun name kind cells => by cases hkc : kind == NameKind.cell <;> simp [hkc]) _ _ _ _ ?_)
  rw [show ({ s with heap := s.heap.push { cls := .type "dict", data := .dict #[] } } : Shared).heap.objs.size = s.heap.objs.size + 1 from Heap.size_push ..]
  simp only [List.forIn_nil]
  exact wpAny_bind (wpAny_pure (wpAny_pure h))

def compOk (scope : Scope) (env : Env) (x : Str) (fs : List Str) : Bool :=
  scope.kind == .function && ((relabel scope env).names.lookup x == some .local || ((relabel scope env).names.lookup x == some .cell && scope.names.contains (x, .cell))) &&
  scope.names.all (fun z => z.2 != .local || scope.names.lookup z.1 == some .local) && scope.names.all (fun z => z.2 != .free || fs.contains z.1) &&
  fs.all (fun y => y != x && env.kindOf y == some .cell && (relabel scope env).names.lookup y == some .cell && scope.names.contains (y, .free) && scope.names.all (fun z => z.1 != y || z.2 != .cell))
def SubV (σf σ : Sto) : Prop := ∀ p ∈ σf, σ.lookup p.1 = some p.2 ∧ ∃ d, p.2 = .val d
theorem SubV.nil {σ : Sto} : SubV [] σ := fun p h => nomatch h
theorem SubV.cons {σf σ : Sto} {x : Str} {d : D} (h : σ.lookup x = some (.val d)) (k : SubV σf σ) : SubV ((x, .val d) :: σf) σ := fun p hp => by
  rcases List.mem_cons.mp hp with rfl | hp
  · exact ⟨h, d, rfl⟩
  · exact k p hp

/-- the block begins -/
theorem comp_enter {A : Around} {scope : Scope} {x : Str} {σf : Sto} {Z R : Fz} {s s1 : Shared} {o : Obj} {Q : Env → Shared → Prop} {E : Value → Shared → Prop} (hk : compOk scope env x (σf.map (·.1)) = true) (S : Rd (hsOf prog w) env Z R σ) (hv : SubV σf σ)
    (W : Wd s₀ Z R s) (hs1 : s1 = { s with heap := s.heap.push o }) (hf : o.isFreed = false)
    (q : ∀ cl C s' R', Wd s₀ Z R' s' → FLe R R' → CF (compEnvC scope cl C env) x R R' → R' s.heap.objs.size = some o → (∀ b ob, s.heap.get? b = some ob → s'.heap.get? b = some ob) →
      (∀ b, b < s.heap.objs.size → R' b = R b) → RdF (hsOf prog w) (compEnvC scope cl C env) Z R x σf →
      Q { scope := scope, locals := C, globals := env.globals, cells := cl, qual := env.qual, func := none, code := env.code, frame := env.frame, builtins := env.builtins } s') :
    wpAny (model prog w) A (newFunctionEnv scope env.globals (closL env scope.names []) [] env.qual none .none (some env)) Q E s1 := by
  subst hs1
  refine block_env ?_
  have hsz : ({ s with heap := s.heap.push o } : Shared).heap.objs.size = s.heap.objs.size + 1 := Heap.size_push ..
  have keep : ∀ b ob, s.heap.get? b = some ob → (pushCells ((s.heap.push o).push { cls := .type "dict", data := .dict #[] }) scope.names).get? b = some ob := fun b ob e => pushCells_keeps _ _ _ _ (Heap.get?_push_of_some _ (Heap.get?_push_of_some _ e))
  let H := pushCells ((s.heap.push o).push { cls := .type "dict", data := .dict #[] }) scope.names
  let R' : Fz := fun b => if s.heap.objs.size ≤ b then H.get? b else R b
  have hR1 : ∀ b, b < s.heap.objs.size → R' b = R b := fun b hb => if_neg (Nat.not_le.mpr hb)
  have hR2 : ∀ b, s.heap.objs.size ≤ b → R' b = H.get? b := fun b hb => if_pos hb
  have hRlt : ∀ b ob, R b = some ob → b < s.heap.objs.size := fun b ob e => Heap.lt_size (W.rest b ob e)
  have hR0 : ∀ b, s.heap.objs.size ≤ b → R b = none := fun b hb => (W.none_of_ge hb).2
  have hle : FLe R R' := fun b ob e => by rw [hR1 b (hRlt b ob e)]; exact e
  rw [hsz]
  simp only [compOk, Bool.and_eq_true, Bool.or_eq_true, List.all_eq_true] at hk
  obtain ⟨⟨⟨⟨hkind, hx⟩, hloc⟩, hfr⟩, hfs⟩ := hk
  refine q _ _ _ R' ⟨W.base, fun b ob e => (W.cur b ob e).keep (keep b), fun b ob e => ?_, fun b ob e => ?_, W.os, W.bare⟩ hle ⟨?_, hR0 _ (Nat.le_succ _), ?_⟩ ?_ keep hR1 ?_
  · by_cases hb : s.heap.objs.size ≤ b
    · rw [hR2 b hb] at e; exact e
    · rw [hR1 b (Nat.lt_of_not_le hb)] at e; exact keep b ob (W.rest b ob e)
  · by_cases hb : s.heap.objs.size ≤ b
    · exact (W.none_of_ge hb).1
    · rw [hR1 b (Nat.lt_of_not_le hb)] at e; exact W.off b ob e
  · have : (s.heap.push o).Ns (s.heap.objs.size + 1) (fun _ => none) ∨ True := .inr trivial
    have hns : ((s.heap.push o).push { cls := .type "dict", data := .dict #[] }).Ns (s.heap.push o).objs.size (fun _ => none) := Heap.Ns.new (s.heap.push o) (.type "dict")
    have hns' := hns.keeps (pushCells_keeps scope.names _)
    rw [Heap.size_push] at hns'
    obtain ⟨ob, h1, h2⟩ := nsObj_of hns'
    exact ⟨ob, _, (hR2 (s.heap.objs.size + 1) (Nat.le_succ _)).trans h1, h2⟩
  · rcases hx with hx | ⟨hx, hm⟩
    · exact .inl (beq_iff_eq.mp hx)
    · have hm' : (x, NameKind.cell) ∈ scope.names := by simpa using hm
      obtain ⟨c, c1, c2, c3⟩ := cellsFrom_mine (h := (s.heap.push o).push { cls := .type "dict", data := .dict #[] }) (acc := closL env scope.names []) hm'
      rw [Heap.size_push, Heap.size_push] at c1 c2
      refine .inr ⟨beq_iff_eq.mp hx, c, _, none, c1, by rw [hR2 c (by omega)]; exact c3, rfl, ?_, hR0 c (by omega)⟩
      exact Nat.ne_of_gt c2
  · rw [hR2 _ (Nat.le_refl _)]
    exact pushCells_keeps _ _ _ _ (Heap.get?_push_of_some _ (Heap.get?_push_size _ hf))
  · intro y lv e
    have hm := mem_of_lookup e
    obtain ⟨e1, d, e2⟩ := hv _ hm
    dsimp only at e1 e2
    obtain ⟨⟨⟨⟨q1, q2⟩, q3⟩, q4⟩, q5⟩ := hfs y (List.mem_map_of_mem (f := (·.1)) hm)
    obtain ⟨v, a, b⟩ := S y lv e1
    subst e2
    refine ⟨by simpa using q1, v, d, rfl, ?_, b⟩
    have q2' : env.kindOf y = some .cell := by simpa using q2
    rcases a with ⟨k, _⟩ | ⟨_, c, oc, a1, a2, a3⟩
    · rw [q2'] at k; cases k
    · refine .inr ⟨.inl (beq_iff_eq.mp q3), c, oc, ?_, a2, a3⟩
      show (cellsFrom _ scope.names _).lookup y = some c
      rw [cellsFrom_other]
      · exact closL_lookup a1 (.inl (by simpa using q4))
      · intro z hz e1 e2
        have := q5 z hz
        rw [e1, e2] at this
        simp at this

theorem comp_clos {scope : Scope} {x : Str} {σf : Sto} {Z R : Fz} (hk : compOk scope env x (σf.map (·.1)) = true) (S : Rd (hsOf prog w) env Z R σ) (hv : SubV σf σ) : closureFor scope env = pure (closL env scope.names []) := by
  refine closureFor_eq fun y hy => ?_
  simp only [compOk, Bool.and_eq_true, Bool.or_eq_true, List.all_eq_true] at hk
  obtain ⟨⟨⟨⟨hkind, hx⟩, hloc⟩, hfr⟩, hfs⟩ := hk
  have h1 := hfr _ hy
  have hmem : y ∈ σf.map (·.1) := by simpa using h1
  obtain ⟨⟨y', lv⟩, hm, rfl⟩ := List.mem_map.mp hmem
  obtain ⟨e1, d, e2⟩ := hv _ hm
  obtain ⟨⟨⟨⟨q1, q2⟩, q3⟩, q4⟩, q5⟩ := hfs _ hmem
  obtain ⟨v, a, b⟩ := S _ _ e1
  have q2' : env.kindOf y' = some .cell := by simpa using q2
  rcases a with ⟨k, _⟩ | ⟨_, c, oc, a1, a2, a3⟩
  · rw [q2'] at k; cases k
  · exact ⟨c, a1⟩
end Mine
namespace Mine
open PySem PySem.Calls PySem.W PyProof.Rows
variable {prog : Program} {w : World} {s₀ : Shared} {n : Nat} {env : Env} {σ : Sto}

theorem comp_end {cenv : Env} {x : Str} {Z R : Fz} {D0 : Addr} {rs : List D} {r : Result} {s' : Shared} (h : CompEnd prog w s₀ cenv x Z R D0 rs r s') (hD0 : R D0 = none) (hz : rs.length ≤ sizeLine) :
    r = .ok .next ∧ ∃ Z' oC, FLe Z Z' ∧ Wd s₀ Z' (forr (one cenv.locals oC) R) s' ∧ R cenv.locals = none ∧ (∃ m, NsObj oC m) ∧ Is (hsOf prog w) Z' (.ref D0) (.lst rs) := by
  obtain ⟨e, Z1, R1, vs, m, l1, l2, W1, F1, hD, hall⟩ := h
  obtain ⟨oC, mC, hC, hm⟩ := F1.fr
  have hz1 : Z1 D0 = none := W1.off _ _ hD
  have hCD : cenv.locals ≠ D0 := fun q => by
    rw [q, hD] at hC; cases hC
    obtain ⟨es, ep, hd, _⟩ := hm
    cases hd
  have hle : FLe (forr (one cenv.locals oC) R) R1 := fun a o e => by
    rcases forr_cases e with q | q
    · by_cases ha : a = cenv.locals
      · subst ha; simp [one] at q; subst q; exact hC
      · simp [one, ha] at q
    · exact l2 _ _ q
  have W2 := (W1.subR hle).addZ hz1 (by simp [forr, one, Ne.symm hCD, hD0]) (W1.rest _ _ hD)
  exact ⟨e, fset Z1 D0 (lstO vs m), oC, l1.trans (fle_fset hz1), W2, F1.fr0, ⟨mC, hm⟩, .lst fset_self (by rw [hall.length]; exact hz) (hall.mono (fle_fset hz1))⟩

theorem comp_kinds {scope : Scope} {x : Str} {fs : List Str} (hk : compOk scope env x fs = true) : scope.kind = .function ∧ ∀ z ∈ scope.names, z.2 = .local → scope.names.lookup z.1 = some .local := by
  simp only [compOk, Bool.and_eq_true, Bool.or_eq_true, List.all_eq_true] at hk
  obtain ⟨⟨⟨⟨hkind, hx⟩, hloc⟩, hfr⟩, hfs⟩ := hk
  refine ⟨by cases hq : scope.kind <;> rw [hq] at hkind <;> first | rfl | (exact nomatch hkind), fun z hz e => ?_⟩
  have := hloc z hz
  rw [e] at this
  simpa using this

/-- the heart of a list comprehension -/
theorem comp_core {elt iter : Expr} {x : Str} {px : Pos} {ifs : List Expr} {scope : Scope} {pos : Pos} {src : D} {items rs : List D} {σf : Sto} {A : Around} {Z R : Fz} {s : Shared} {use : Option (Value → Sem Unit)} {Q : Value → Shared → Prop} {p : Pos}
    (O : EnvOk env) (hi : Ev prog w s₀ n env σ (eval iter env) src) (hs : Src prog w s₀ n (.Name x px) src items)
    (hv : SubV σf σ) (hk : compOk scope env x (σf.map (·.1)) = true) (hT : ∀ cl C, CompT prog w s₀ n (compEnvC scope cl C env) σf x ifs elt items rs) (hz : rs.length ≤ sizeLine) (ok : Ok n A) (W : Wd s₀ Z R s) (S : Rd (hsOf prog w) env Z R σ)
    (hfs : ∀ x, foldedSetIterable iter env x = pure x)
    (q : ∀ Z' C oC D0 s', FLe Z Z' → Wd s₀ Z' (forr (one C oC) R) s' → R C = none → (∃ m, NsObj oC m) → Is (hsOf prog w) Z' (.ref D0) (.lst rs) → compPost (model prog w) A nope use Q (.ref D0) C (.ok .next) s') :
    wpAny (model prog w) A (comprehension (.ListComp elt [⟨.Name x px, iter, ifs, 0⟩] scope pos) scope env p (newList []) false (eval iter env) use) Q nope s := by
  obtain ⟨hkind, hnames⟩ := comp_kinds hk
  refine wpAny_comprehension_free rfl hfs (comp_clos hk S hv) hkind hnames ?_
  refine wpAny_mono (hi A Z R s ok W S) ?_ fun _ _ x => x
  rintro v s1 ⟨Z1, l1, W1, i1⟩
  refine wpAny_mono (hs A Z1 R s1 v ok W1 i1) ?_ fun _ _ x => x
  rintro it s2 ⟨Z2, I, l2, W2, hI, ho, hself, hS⟩
  refine wpAny_newObj_type ?_ (by show ([] : List Value).toArray.size ≤ sizeLine; decide)
  refine comp_enter (o := lstO [] 0) hk (S.mono (l1.trans l2) (.refl _)) hv W2 rfl rfl ?_
  intro cl C s4 R4 W4 hle F4 hD4 keep hlow hRd
  have O' : EnvOk (compEnvC scope cl C env) := ⟨hkind, O.glob, O.blt⟩
  have hD0 : R s2.heap.objs.size = none := (W2.none_of_ge (Nat.le_refl _)).2
  have hI4 : FIn I s4.heap := fun a o e => keep a o (hI a o e)
  have ho4 : IOff I Z2 R4 := fun a o e => ⟨(ho a o e).1, by rw [hlow a (Heap.lt_size (hI a o e))]; exact (ho a o e).2⟩
  have fin : codeAny (model prog w) A (.compLoop (.ListComp elt [⟨.Name x px, iter, ifs, 0⟩] scope pos) 0 it (.ref s2.heap.objs.size) (compEnvC scope cl C env))
      (compPost (model prog w) A nope use Q (.ref s2.heap.objs.size) C) s4 := by
    refine codeAny_mono (exc_comp (done := []) O' hD0 (hT cl C) hz A Z2 R4 I s4 [] 0 ok W4 F4 hle hRd hD4 .nil hI4 ho4 hS) ?_
    intro r s5 hend
    obtain ⟨rfl, Z5, oC, l5, W5, hC, hm, i5⟩ := comp_end hend hD0 hz
    exact q Z5 C oC _ s5 ((l1.trans l2).trans l5) W5 hC hm i5
  exact codeAny_compStart_list fin (hself A s4 _ _ hI4 fin)

theorem ev_listcomp {elt iter : Expr} {x : Str} {px : Pos} {ifs : List Expr} {scope : Scope} {pos : Pos} {src : D} {items rs : List D} (σf : Sto)
    (O : EnvOk env) (hi : Ev prog w s₀ n env σ (eval iter env) src) (hs : Src prog w s₀ n (.Name x px) src items)
    (hv : SubV σf σ) (hT : ∀ cl C, CompT prog w s₀ n (compEnvC scope cl C env) σf x ifs elt items rs) (hz : rs.length ≤ sizeLine)
    (hk : compOk scope env x (σf.map (·.1)) = true := by with_unfolding_all rfl)
    (hfs : ∀ x, foldedSetIterable iter env x = pure x := by intro _; rfl) :
    Ev prog w s₀ n env σ (eval (.ListComp elt [⟨.Name x px, iter, ifs, 0⟩] scope pos) env) (.lst rs) := by
  intro A Z R s ok W S
  rw [eval_ListComp]
  refine comp_core O hi hs hv hk hT hz ok W S hfs fun Z' C oC D0 s' l W' hC hm i => ?_
  obtain ⟨m, hm⟩ := hm
  refine ⟨m, hm.ns (W'.rest _ _ (fle_forr _ _ (by simp [one]))), fun h' hs' => ?_⟩
  have hoff := W'.off C oC (fle_forr _ _ (by simp [one]))
  have W2 : Wd s₀ Z' R s' := W'.subR (fle_forr_r fun a o e => by
    by_cases ha : a = C
    · subst ha; exact hC
    · simp [one, ha] at e)
  exact ⟨Z', l, W2.but (tk := s'.toks) (· = C) (fun a e => e ▸ ⟨hoff, hC⟩) fun b ob hb e => (hs'.2 b hb).trans e, i⟩

/-- x = [..], both on one line -/
theorem ex_assign_comp {elt iter : Expr} {x y : Str} {px py : Pos} {ifs : List Expr} {scope : Scope} {pos spos : Pos} {src : D} {items rs : List D} (σf : Sto)
    (O : EnvOk env) (hi : Ev prog w s₀ n env σ (eval iter env) src) (hs : Src prog w s₀ n (.Name x px) src items)
    (hv : SubV σf σ) (hT : ∀ cl C, CompT prog w s₀ n (compEnvC scope cl C env) σf x ifs elt items rs) (hz : rs.length ≤ sizeLine)
    (hy : env.kindOf y = some .local ∨ env.kindOf y = some .cell := by first | exact Or.inl rfl | exact Or.inr rfl)
    (hsw : swapsWith (.ListComp elt [⟨.Name x px, iter, ifs, 0⟩] scope pos) (some (.Name y py)) spos.line env = pure true := by with_unfolding_all rfl)
    (hk : compOk scope env x (σf.map (·.1)) = true := by with_unfolding_all rfl)
    (hfs : ∀ x, foldedSetIterable iter env x = pure x := by intro _; rfl) :
    Ex prog w s₀ n env σ (exec (.Assign [.Name y py] (.ListComp elt [⟨.Name x px, iter, ifs, 0⟩] scope pos) spos) env) (.next (sset σ y (.val (.lst rs)))) := by
  intro A Z R Y s ok W P
  rw [exec_Assign_Name_used _ _ _ _ hsw]
  refine wpAny_bind (wpAny_standAt (wpAny_bind ?_))
  show wpAny _ A (do let _ ← comprehension (.ListComp elt [⟨.Name x px, iter, ifs, 0⟩] scope pos) scope env _ (newList []) false (eval iter env) (some (assign (.Name y py) env))) _ _ s
  refine wpAny_bind (wpAny_mono (comp_core (use := some (assign (.Name y py) env)) (Q := fun _ s' => StPost prog w s₀ env Z R (sset σ y (.val (.lst rs))) s') O hi hs hv hk hT hz ok W P.read hfs ?_) (fun _ s' hq => wpAny_pure (wpAny_pure (StPost.ex hq))) fun _ _ e => e)
  intro Z' C oC D0 s' l W' hC hm i
  obtain ⟨m, hm⟩ := hm
  have hIR : ∀ a o, one C oC a = some o → forr Y R a = none := fun a o e => by
    by_cases ha : a = C
    · subst ha; exact hC
    · simp [one, ha] at e
  obtain ⟨W2, hI, ho⟩ := W'.splitI hIR
  have P2 := P.monoZ l
  have W3 := W2.withI hI ho P2.disj
  have P3 := P2.withI ho
  show wpAny _ A (assign (.Name y py) env (.ref D0)) _ _ _
  refine wpAny_mono (asg_name O hy A Z' _ Y s' _ ok W3 P3 i) ?_ fun _ _ x => x
  rintro _ s4 ⟨Z4, Y4, l4, W4, P4⟩
  have hIR' : ∀ a o, one C oC a = some o → R a = none := fun a o e => (off_forr ho P2.disj a o e).2
  obtain ⟨W5, hI5, ho5⟩ := W4.dropI P4.disj hIR'
  refine ⟨m, hm.ns (hI5 C oC (by simp [one])), fun h' hs' => ?_⟩
  have hoff := ho5 C oC (by simp [one])
  exact ⟨Z4, Y4, l.trans l4, W5.but (tk := s4.toks) (· = C) (fun a e => e ▸ hoff) fun b ob hb e => (hs'.2 b hb).trans e, P4.dropI⟩
end Mine
namespace Mine
open PySem PySem.Calls PySem.W PyProof.Rows
variable {prog : Program} {w : World} {s₀ : Shared} {n : Nat} {env : Env} {σ : Sto}

/-! text operators -/
theorem op_add_str {a b : Str} (h : a.length + b.length ≤ sizeLine) : Op2 prog w s₀ n (binaryOp .Add) (.str a) (.str b) (.str (a ++ b)) := by
  intro A Z R s u v ok W i j; obtain ⟨_, rfl⟩ := i.str_inv; obtain ⟨_, rfl⟩ := j.str_inv
  exact SB.add (fun t' k => Post.here (W.tok _) (.str _ _)) h
theorem op_iadd_str {a b : Str} (h : a.length + b.length ≤ sizeLine) : Op2 prog w s₀ n (inplaceOp .Add) (.str a) (.str b) (.str (a ++ b)) := by
  intro A Z R s u v ok W i j; obtain ⟨_, rfl⟩ := i.str_inv; obtain ⟨_, rfl⟩ := j.str_inv
  exact SB.iadd (fun t' k => Post.here (W.tok _) (.str _ _)) h
def srep (x : Str) (k : Nat) : Str := ⟨(List.replicate k x.cps).foldl (· ++ ·) #[]⟩
theorem srep_length (x : Str) : ∀ k, (srep x k).length = k * x.length := by
  have key : ∀ (k : Nat) (a : Array Nat), ((List.replicate k x.cps).foldl (· ++ ·) a).size = a.size + k * x.cps.size := by
    intro k
    induction k with
    | zero => intro a; simp
    | succ k ih =>
      intro a
      rw [List.replicate_succ, List.foldl_cons, ih, Array.size_append, Nat.succ_mul]; omega
  intro k
  have := key k #[]
  simpa [srep, Str.length] using this
theorem op_mul_str {x : Str} {k : Int} (h0 : 0 ≤ k) (hx : 1 ≤ x.length) (h : k.toNat * x.length ≤ sizeLine) : Op2 prog w s₀ n (binaryOp .Mult) (.str x) (.int k) (.str (srep x k.toNat)) := by
  intro A Z R s u v ok W i j; obtain ⟨_, rfl⟩ := i.str_inv; obtain ⟨_, rfl⟩ := j.int_inv
  have hz := sizeLine_eq
  have hk : k.toNat ≤ sizeLine := Nat.le_trans (Nat.le_mul_of_pos_right _ hx) h
  have hx' : ¬ k < 1 → x.length ≤ sizeLine := fun hk1 => Nat.le_trans (Nat.le_mul_of_pos_left _ (by omega)) h
  refine P.mul_str ?_ (fun h1 h2 => ?_) (fun h1 h2 => ?_) ?_
  · rw [decide_eq_false (by omega), decide_eq_false (by omega)]; rfl
  · have hd : ((2 : Int) ^ 63 - 1) / k ≥ x.length := by
      rw [ge_iff_le, Int.le_ediv_iff_mul_le (by omega)]
      have : (x.length : Int) * k = ((k.toNat * x.length : Nat) : Int) := by
        rw [Int.natCast_mul, Int.toNat_of_nonneg h0, Int.mul_comm]
      rw [this]; omega
    omega
  · unfold Builtin.Str.tooLong
    rw [Nat.mul_comm]
    simp; omega
  · split
    · rename_i hlt
      have : k.toNat = 0 := by omega
      rw [this]
      exact ⟨by decide, Post.here (W.tok _) (.str _ _)⟩
    · rename_i hlt
      split
      · rename_i hone
        have hk1 : k = 1 := by
          rcases Bool.or_eq_true_iff.mp hone with q | q
          · simpa using q
          · have : x.length = 0 := by simpa using q
            omega
        subst hk1
        have : srep x (1 : Int).toNat = x := by
          show srep x 1 = x
          simp [srep]
        rw [this]
        exact Post.here W (.str _ _)
      · refine ⟨?_, Post.here (W.tok _) (.str _ _)⟩
        show (srep x k.toNat).length ≤ sizeLine
        rw [srep_length]; exact h

/-! sequences -/
theorem op_add_lst {a b : List D} (h : a.length + b.length ≤ sizeLine) : Op2 prog w s₀ n (binaryOp .Add) (.lst a) (.lst b) (.lst (a ++ b)) := by
  intro A Z R s u v ok W i j
  obtain ⟨_, _, _, rfl, e, hz, ha⟩ := i.lst_inv
  ·
    obtain ⟨_, _, _, rfl, e', hz', hb⟩ := j.lst_inv
    ·
      rename_i l vs m l' ws m'
      have h1 := ha.length
      have h2 := hb.length
      refine P.add_list (n := m) (n2 := m') (W.frz _ _ e) (W.frz _ _ e') ?_ (by simp; omega)
      have e1 : vs.toArray ++ ws.toArray = (vs ++ ws).toArray := by simp
      rw [e1]
      exact newSeq (A := A) (vs := vs) (lstO (vs ++ ws) 0) W rfl fun Z' l e => .lst e (by simp; omega) ((ha.append hb).mono l)
theorem op_add_tup {a b : List D} (h : a.length + b.length ≤ sizeLine) (ha0 : a ≠ []) (hb0 : b ≠ []) : Op2 prog w s₀ n (binaryOp .Add) (.tup a) (.tup b) (.tup (a ++ b)) := by
  intro A Z R s u v ok W i j
  obtain ⟨_, _, _, rfl, e, hz, ha⟩ := i.tup_inv
  ·
    obtain ⟨_, _, _, rfl, e', hz', hb⟩ := j.tup_inv
    ·
      rename_i l vs m l' ws m'
      have h1 := ha.length
      have h2 := hb.length
      have ne : ∀ {vs : List Value} {ds : List D}, vs.length = ds.length → ds ≠ [] → ¬ vs.toArray.isEmpty = true := by
        intro vs ds hl hn
        cases vs with
        | nil => cases ds with
          | nil => exact (hn rfl).elim
          | cons => cases hl
        | cons => simp
      refine P.add_tuple (n := m) (n2 := m') (W.frz _ _ e) (W.frz _ _ e') (ne h1 ha0) (ne h2 hb0) ?_ (by simp; omega)
      have e1 : vs.toArray ++ ws.toArray = (vs ++ ws).toArray := by simp
      rw [e1]
      exact newSeq (A := A) (vs := vs) (tupO (vs ++ ws) 0) W rfl fun Z' l e => .tup e (by simp; omega) ((ha.append hb).mono l)

/-! slices -/
def EvP (prog : Program) (w : World) (s₀ : Shared) (n : Nat) (env : Env) (σ : Sto) (e : Option Expr) (k : Option Int) : Prop :=
  match e, k with
  | none, none => True
  | some e, some i => Ev prog w s₀ n env σ (eval e env) (.int i)
  | _, _ => False
theorem evP_use {e : Option Expr} {k : Option Int} (h : EvP prog w s₀ n env σ e k) {A : Around} {Z R : Fz} {s : Shared} (ok : Ok n A) (W : Wd s₀ Z R s) (S : Rd (hsOf prog w) env Z R σ) :
    wpAny (model prog w) A (evalPart e env) (fun v s' => IsPart v k ∧ ∃ Z', FLe Z Z' ∧ Wd s₀ Z' R s') nope s := by
  cases e with
  | none => cases k with
    | none => exact wpAny_pure ⟨.none, Z, .refl Z, W⟩
    | some i => exact h.elim
  | some e => cases k with
    | none => exact h.elim
    | some i =>
      refine wpAny_mono (h A Z R s ok W S) ?_ fun _ _ x => x
      rintro v s' ⟨Z', l, W', i'⟩
      obtain ⟨_, rfl⟩ := i'.int_inv
      exact ⟨.int _ _, Z', l, W'⟩
theorem ev_slice {lower upper : Option Expr} {p : Pos} {lo hi : Option Int} (hl : EvP prog w s₀ n env σ lower lo) (hu : EvP prog w s₀ n env σ upper hi) : Ev prog w s₀ n env σ (eval (.Slice lower upper none p) env) (.slc lo hi) := by
  intro A Z R s ok W S
  refine wpAny_Slice (wpAny_mono (evP_use hl ok W S) ?_ fun _ _ x => x)
  rintro v s1 ⟨p1, Z1, l1, W1⟩
  refine wpAny_mono (evP_use hu ok W1 (S.mono l1 (.refl _))) ?_ fun _ _ x => x
  rintro u s2 ⟨p2, Z2, l2, W2⟩
  refine wpAny_pure ?_
  exact (newSeq (A := A) (vs := []) { cls := .type "slice", data := .fields #[v, u, .none] } W2 rfl fun Z' l e => .slc e p1 p2).mono (l1.trans l2)
def lpick (ds : List D) (lo hi : Option Int) : List D := (sliceRange (sliceBounds lo hi none ds.length).1 (sliceBounds lo hi none ds.length).2.1 (sliceBounds lo hi none ds.length).2.2).filterMap (ds[·]?)
theorem IsAll.pick {hs : Str → Int} {Z : Fz} {vs : List Value} {ds : List D} (h : IsAll hs Z vs ds) : ∀ (ks : List Nat), IsAll hs Z (ks.filterMap (vs[·]?)) (ks.filterMap (ds[·]?))
  | [] => .nil
  | k :: ks => by
    cases hd : ds[k]? with
    | none =>
      have hv : vs[k]? = none := by
        rw [List.getElem?_eq_none_iff] at hd ⊢
        rw [h.length]; exact hd
      rw [List.filterMap_cons_none hd, List.filterMap_cons_none hv]
      exact IsAll.pick h ks
    | some d =>
      obtain ⟨v, hv, iv⟩ := h.get hd
      rw [List.filterMap_cons_some hd, List.filterMap_cons_some hv]
      exact .cons iv (IsAll.pick h ks)
abbrev SubSlice (slice : Expr) : Prop := ∀ o i, subscripted slice false o i = operate [i, o] (getItem o i)
theorem op_slice_lst {value slice : Expr} {ds : List D} {lo hi : Option Int} (hs : SubSlice slice := by intro _ _; with_unfolding_all rfl) :
    Op2 prog w s₀ n (subscriptTail value slice) (.lst ds) (.slc lo hi) (.lst (lpick ds lo hi)) := by
  intro A Z R s u v ok W i j
  obtain ⟨_, _, _, rfl, ej, pl, pu⟩ := j.slc_inv
  ·
    obtain ⟨_, _, _, rfl, e, hz, ha⟩ := i.lst_inv
    ·
      rename_i sl vl vu l vs m
      have hl : s.heap.IsList l vs.toArray := ⟨_, W.frz _ _ e, rfl, _, rfl⟩
      have hsl : s.heap.IsSliceOf sl vl vu .none := ⟨_, W.frz _ _ ej, rfl, rfl⟩
      refine tail_any hl.typeIs slot_list_getitem.lookup (wpAny_getItem_list_slice hl hsl pl pu .none (by simp) ?_ (by rw [List.size_toArray]; exact hz)) (hs _ _)
      have hp : slicePick vs.toArray lo hi none = ((sliceRange (sliceBounds lo hi none ds.length).1 (sliceBounds lo hi none ds.length).2.1 (sliceBounds lo hi none ds.length).2.2).filterMap (vs[·]?)).toArray := by
        unfold slicePick
        rw [List.size_toArray, ha.length]
        simp
      have hle := slicePick_size_le vs.toArray lo hi none
      rw [hp] at hle ⊢
      rw [List.size_toArray, List.size_toArray] at hle
      exact newSeq (A := A) (vs := vs) (lstO _ 0) W rfl fun Z' l e => .lst e (Nat.le_trans hle hz) ((ha.pick _).mono l)
def cutI (x : Str) (lo hi : Option Int) : List Nat := Builtin.Str.strSliceIndices lo hi 1 x.length
def scut (x : Str) (lo hi : Option Int) : Str := if (cutI x lo hi).length = x.length then x else ⟨((cutI x lo hi).filterMap (x.cps[·]?)).toArray⟩
theorem op_slice_str {value slice : Expr} {x : Str} {lo hi : Option Int} (hz : x.length ≤ sizeLine) (hz2 : (cutI x lo hi).length ≤ sizeLine) (hs : SubSlice slice := by intro _ _; with_unfolding_all rfl) :
    Op2 prog w s₀ n (subscriptTail value slice) (.str x) (.slc lo hi) (.str (scut x lo hi)) := by
  intro A Z R s u v ok W i j
  obtain ⟨_, _, _, rfl, ej, pl, pu⟩ := j.slc_inv
  ·
    obtain ⟨t, rfl⟩ := i.str_inv
    ·
      rename_i sl vl vu
      have part : ∀ {v : Value} {k : Option Int}, IsPart v k → ∃ q : Option (Int × Tok), v = partValue q ∧ q.map (·.1) = k := by
        intro v k h
        cases h with
        | none => exact ⟨none, rfl, rfl⟩
        | int i t => exact ⟨some (i, t), rfl, rfl⟩
      obtain ⟨ql, rfl, el⟩ := part pl
      obtain ⟨qu, rfl, eu⟩ := part pu
      refine tail_any (typeIs_str s x t) F.slot_str_getitem.lookup (wpAny_getItem_str_slice (l := ql) (u := qu) (st := none) ⟨_, W.frz _ _ ej, rfl, rfl⟩ rfl ?_) (hs _ _)
      have e0 : slicePicked x ql qu none = cutI x lo hi := by
        unfold slicePicked cutI
        rw [el, eu]; rfl
      unfold sliceMade
      rw [e0]
      unfold scut
      by_cases hc : (cutI x lo hi).length = x.length
      · rw [if_pos hc, if_pos (by simp [hc])]
        exact Post.here W (.str _ _)
      · rw [if_neg hc, if_neg (by simp [hc])]
        exact ⟨by
          refine Nat.le_trans ?_ hz2
          show (List.toArray _).size ≤ _
          rw [List.size_toArray]
          exact List.length_filterMap_le _ _, Post.here (W.tok _) (.str _ _)⟩

/-! calls of builtins -/
theorem ct_len_str {x : Str} (hz : x.length ≤ sizeLine) : CallT prog w s₀ n (.builtin "len") [.str x] (.int x.length) := by
  intro A Z R s vs ok W i
  obtain ⟨_, rfl, i1⟩ := i.one_inv; obtain ⟨_, rfl⟩ := i1.str_inv; exact PySem.P.len_str (by have := sz_lt hz; omega) (Post.here (W.tok _) (.int _ _))
theorem ct_len_lst {ds : List D} : CallT prog w s₀ n (.builtin "len") [.lst ds] (.int ds.length) := by
  intro A Z R s vs ok W i
  obtain ⟨_, rfl, i1⟩ := i.one_inv
  ·
    obtain ⟨_, _, _, rfl, e, hz, ha⟩ := i1.lst_inv
    ·
      rename_i l vs m
      refine call_len_list ⟨_, W.frz _ _ e, rfl, _, rfl⟩ (by rw [List.size_toArray]; exact sz_lt hz) ?_
      rw [List.size_toArray, ha.length]
      exact Post.here (W.tok _) (.int _ _)
theorem ct_abs {a : Int} : CallT prog w s₀ n (.builtin "abs") [.int a] (.int (if a < 0 then -a else a)) := by
  intro A Z R s vs ok W i
  obtain ⟨_, rfl, i1⟩ := i.one_inv; obtain ⟨_, rfl⟩ := i1.int_inv; exact call_abs_int fun u tk => Post.here (W.tok _) (.int _ _)
theorem ct_chr {i : Int} (hi : 0 ≤ i) (hi' : i ≤ 0x10FFFF) : CallT prog w s₀ n (.builtin "chr") [.int i] (.str ⟨#[i.toNat]⟩) := by
  intro A Z R s vs ok W j
  obtain ⟨_, rfl, i1⟩ := j.one_inv; obtain ⟨_, rfl⟩ := i1.int_inv; exact P.chr_of_int (by rw [decide_eq_false (by omega), decide_eq_false (by omega)]; rfl) (Post.here (W.tok _) (.str _ _))
theorem ct_range {k : Nat} : CallT prog w s₀ n (.type "range") [.int k] (.rng k) := by
  intro A Z R s vs ok W j
  obtain ⟨_, rfl, i1⟩ := j.one_inv
  ·
    obtain ⟨t, rfl⟩ := i1.int_inv
    ·
      refine call_range_1 ?_
      exact newSeq (A := A) (vs := []) (d := .rng k) { cls := .type "range", data := .fields #[.int 0 s.toks, .int k t, .int 1 (s.toks + 1)] } (W.tok (s.toks + 1 + 1)) rfl fun Z' l e => .rng e
theorem ct_type_str {x : Str} : CallT prog w s₀ n (.type "type") [.str x] (.ty "str") := by
  intro A Z R s vs ok W j
  obtain ⟨_, rfl, i1⟩ := j.one_inv; obtain ⟨_, rfl⟩ := i1.str_inv; exact call_type_of (typeIs_str _ _ _) (by decide +kernel) (Post.here W (.ty _))
theorem ct_isi_str_bytes {x : Str} : CallT prog w s₀ n (.builtin "isinstance") [.str x, .ty "bytes"] (.bool false) := by
  intro A Z R s vs ok W j
  obtain ⟨_, _, rfl, i1, i2⟩ := j.two_inv; obtain ⟨_, rfl⟩ := i1.str_inv; obtain rfl := i2.ty_inv; exact IsiPair.str_bytes (Post.here (W.tok _) (.bool _))
theorem ct_isi_int_int {a : Int} : CallT prog w s₀ n (.builtin "isinstance") [.int a, .ty "int"] (.bool true) := by
  intro A Z R s vs ok W j
  obtain ⟨_, _, rfl, i1, i2⟩ := j.two_inv; obtain ⟨_, rfl⟩ := i1.int_inv; obtain rfl := i2.ty_inv; exact IsiPair.int_int (Post.here W (.bool _))
theorem ct_isi_int_tuple {a : Int} : CallT prog w s₀ n (.builtin "isinstance") [.int a, .ty "tuple"] (.bool false) := by
  intro A Z R s vs ok W j
  obtain ⟨_, _, rfl, i1, i2⟩ := j.two_inv; obtain ⟨_, rfl⟩ := i1.int_inv; obtain rfl := i2.ty_inv; exact IsiPair.int_tuple (Post.here (W.tok _) (.bool _))
theorem ct_isi_tup_int {ds : List D} : CallT prog w s₀ n (.builtin "isinstance") [.tup ds, .ty "int"] (.bool false) := by
  intro A Z R s vs ok W j
  obtain ⟨_, _, rfl, i1, i2⟩ := j.two_inv; obtain rfl := i2.ty_inv; obtain ⟨_, _, _, rfl, e, hz, ha⟩ := i1.tup_inv; exact IsiPair.tuple_int (W.frz _ _ e) rfl (Post.here (W.tok _) (.bool _))
theorem ct_isi_tup_tuple {ds : List D} : CallT prog w s₀ n (.builtin "isinstance") [.tup ds, .ty "tuple"] (.bool true) := by
  intro A Z R s vs ok W j
  obtain ⟨_, _, rfl, i1, i2⟩ := j.two_inv; obtain rfl := i2.ty_inv; obtain ⟨_, _, _, rfl, e, hz, ha⟩ := i1.tup_inv; exact IsiPair.tuple_tuple (W.frz _ _ e) rfl (Post.here W (.bool _))
end Mine
namespace Mine
open PySem PySem.Calls PySem.W PyProof.Rows
variable {prog : Program} {w : World} {s₀ : Shared} {n : Nat} {env : Env} {σ : Sto}

/-! methods of texts -/
theorem mk_append : MethOk "list" (Str.ofString "append") "list.append" := ⟨PySem.F.plainAttrs_list, slot_list_append, PySem.F.type_list_append⟩
theorem mk_pop : MethOk "list" (Str.ofString "pop") "list.pop" := ⟨PySem.F.plainAttrs_list, PySem.F.slot_list_pop, PySem.F.type_list_pop⟩
theorem mk_items : MethOk "dict" (Str.ofString "items") "dict.items" := ⟨PySem.F.plainAttrs_dict, PySem.F.slot_dict_items, PySem.F.type_dict_items⟩
theorem mk_values : MethOk "dict" (Str.ofString "values") "dict.values" := ⟨PySem.F.plainAttrs_dict, PySem.F.slot_dict_values, PySem.F.type_dict_values⟩
theorem mk_count : MethOk "str" (Str.ofString "count") "str.count" := ⟨PySem.F.plainAttrs_str, PySem.F.slot_str_count, PySem.F.type_str_count⟩
theorem mk_rfind : MethOk "str" (Str.ofString "rfind") "str.rfind" := ⟨PySem.F.plainAttrs_str, PySem.F.slot_str_rfind, PySem.F.type_str_rfind⟩
theorem mk_startswith : MethOk "str" (Str.ofString "startswith") "str.startswith" := ⟨PySem.F.plainAttrs_str, PySem.F.slot_str_startswith, PySem.F.type_str_startswith⟩
theorem mk_endswith : MethOk "str" (Str.ofString "endswith") "str.endswith" := ⟨PySem.F.plainAttrs_str, PySem.F.slot_str_endswith, PySem.F.type_str_endswith⟩
theorem mk_rstrip : MethOk "str" (Str.ofString "rstrip") "str.rstrip" := ⟨PySem.F.plainAttrs_str, PySem.F.slot_str_rstrip, PySem.F.type_str_rstrip⟩
theorem mk_split : MethOk "str" (Str.ofString "split") "str.split" := ⟨PySem.F.plainAttrs_str, PySem.F.slot_str_split, PySem.F.type_str_split⟩
theorem mk_join : MethOk "str" (Str.ofString "join") "str.join" := ⟨PySem.F.plainAttrs_str, PySem.F.slot_str_join, PySem.F.type_str_join⟩

theorem ct_count {x y : Str} : CallT prog w s₀ n (.builtin "str.count") [.str x, .str y] (.int (Txt.count x y)) := by
  intro A Z R s vs ok W i
  obtain ⟨_, _, rfl, i1, i2⟩ := i.two_inv; obtain ⟨_, rfl⟩ := i1.str_inv; obtain ⟨_, rfl⟩ := i2.str_inv; exact call_gives PySem.F.slot_str_count (typeIs_str _ _ _) PySem.F.entry_str_count (PySem.F.args_str_count_2 _ _) (gives_str_count x y _ _) (Post.here (W.tok _) (.int _ _))
theorem ct_rfind {x y : Str} : CallT prog w s₀ n (.builtin "str.rfind") [.str x, .str y] (.int (Txt.rfind x y)) := by
  intro A Z R s vs ok W i
  obtain ⟨_, _, rfl, i1, i2⟩ := i.two_inv; obtain ⟨_, rfl⟩ := i1.str_inv; obtain ⟨_, rfl⟩ := i2.str_inv; exact call_gives PySem.F.slot_str_rfind (typeIs_str _ _ _) PySem.F.entry_str_rfind (PySem.F.args_str_rfind_2 _ _) (gives_str_rfind x y _ _) (Post.here (W.tok _) (.int _ _))
theorem ct_startswith {x y : Str} : CallT prog w s₀ n (.builtin "str.startswith") [.str x, .str y] (.bool (Txt.startswith x y)) := by
  intro A Z R s vs ok W i
  obtain ⟨_, _, rfl, i1, i2⟩ := i.two_inv; obtain ⟨_, rfl⟩ := i1.str_inv; obtain ⟨_, rfl⟩ := i2.str_inv; exact call_gives PySem.F.slot_str_startswith (typeIs_str _ _ _) PySem.F.entry_str_startswith (PySem.F.args_str_startswith_2 _ _) (gives_str_startswith x y _ _) (Post.here W (.bool _))
theorem ct_endswith {x y : Str} : CallT prog w s₀ n (.builtin "str.endswith") [.str x, .str y] (.bool (Txt.endswith x y)) := by
  intro A Z R s vs ok W i
  obtain ⟨_, _, rfl, i1, i2⟩ := i.two_inv; obtain ⟨_, rfl⟩ := i1.str_inv; obtain ⟨_, rfl⟩ := i2.str_inv; exact call_gives PySem.F.slot_str_endswith (typeIs_str _ _ _) PySem.F.entry_str_endswith (PySem.F.args_str_endswith_2 _ _) (gives_str_endswith x y _ _) (Post.here W (.bool _))
theorem ct_rstrip {x y : Str} (hz : x.length ≤ sizeLine) : CallT prog w s₀ n (.builtin "str.rstrip") [.str x, .str y] (.str (Txt.rstripChars x y)) := by
  intro A Z R s vs ok W i
  obtain ⟨_, _, rfl, i1, i2⟩ := i.two_inv
  ·
      obtain ⟨_, rfl⟩ := i1.str_inv; obtain ⟨_, rfl⟩ := i2.str_inv
      exact call_gives PySem.F.slot_str_rstrip (typeIs_str _ _ _) PySem.F.entry_str_rstrip (PySem.F.args_str_rstrip_2 _ _) (gives_str_rstrip_chars x y _ _) (post_val_or_made (fun _ => fits_stripped _ _ _ hz) fun t' k => Post.here (W.tok _) (.str _ _))
theorem isAll_strs {hs : Str → Int} {Z : Fz} : ∀ (l : List (Str × Tok)), IsAll hs Z (strValues l) ((l.map (·.1)).map .str)
  | [] => .nil
  | (x, t) :: r => .cons (.str x t) (isAll_strs r)
theorem isAll_strs_inv {hs : Str → Int} {Z : Fz} : ∀ {vs : List Value} {xs : List Str}, IsAll hs Z vs (xs.map .str) → ∃ l, vs = strValues l ∧ l.map (·.1) = xs
  | _, [], .nil => ⟨[], rfl, rfl⟩
  | _, x :: xs, .cons i ir => by
    obtain ⟨t, rfl⟩ := i.str_inv
    ·
      obtain ⟨l, rfl, e⟩ := isAll_strs_inv ir
      exact ⟨(x, t) :: l, rfl, by simp [e]⟩
theorem ct_split {x y : Str} (hy : (y.length == 0) = false) (hz : x.length ≤ sizeLine) (hz2 : (Builtin.Str.partsBetween x (Builtin.Str.occurrences x y 0 x.length (x.length + 1)) y.length).length ≤ sizeLine) :
    CallT prog w s₀ n (.builtin "str.split") [.str x, .str y] (.lst ((Txt.split x y).map .str)) := by
  intro A Z R s vs ok W i
  obtain ⟨_, _, rfl, i1, i2⟩ := i.two_inv
  ·
      obtain ⟨t, rfl⟩ := i1.str_inv
      obtain ⟨u, rfl⟩ := i2.str_inv
      have fin : ∀ (l : List (Str × Tok)) (tk : Nat), l.map (·.1) = Txt.split x y → l.length ≤ sizeLine → Post prog w s₀ Z R (.lst ((Txt.split x y).map .str)) (.ref s.heap.objs.size) { s with heap := s.heap.push (lstO (strValues l) 0), toks := tk } := by
        intro l tk hl hlen
        rw [← hl]
        refine newSeq (A := A) (vs := []) (lstO (strValues l) 0) (W.tok tk) rfl fun Z' lz e => .lst e ?_ (isAll_strs l)
        show (l.map _).length ≤ _
        rw [List.length_map]; exact hlen
      cases h1 : (decide (x.length < y.length) || decide (Builtin.Str.strKind x < Builtin.Str.strKind y))
      · cases hf : (Builtin.Str.occurrences x y 0 x.length (x.length + 1)).isEmpty
        · refine call_meets PySem.F.slot_str_split (typeIs_str _ _ _) PySem.F.entry_str_split (PySem.F.args_str_split_2 _ _) (meets_str_split_sep x y t u h1 hy hf hz hz2) ?_
          show wants _ nope _ { s with toks := _, heap := s.heap.push { cls := .type "list", data := .seq (strsFrom s.toks (Builtin.Str.partsBetween x (Builtin.Str.occurrences x y 0 x.length (x.length + 1)) y.length)).toArray } }
          rw [strsFrom_eq]
          refine fin (numbered s.toks _) _ ((numbered_texts _ _).trans ((if_neg (ne_true_of_eq_false h1)).trans (if_neg (ne_true_of_eq_false hf))).symm) ?_
          have := congrArg List.length (numbered_texts s.toks (Builtin.Str.partsBetween x (Builtin.Str.occurrences x y 0 x.length (x.length + 1)) y.length))
          rw [List.length_map] at this
          rw [this]; exact hz2
        · exact call_meets PySem.F.slot_str_split (typeIs_str _ _ _) PySem.F.entry_str_split (PySem.F.args_str_split_2 _ _) (meets_str_split_not_found x y t u h1 hy hf)
            (fin [(x, t)] s.toks ((if_neg (ne_true_of_eq_false h1)).trans (if_pos hf)).symm (by simp [sizeLine_eq]))
      · exact call_meets PySem.F.slot_str_split (typeIs_str _ _ _) PySem.F.entry_str_split (PySem.F.args_str_split_2 _ _) (meets_str_split_cannot_occur x y t u h1)
          (fin [(x, t)] s.toks (if_pos h1).symm (by simp [sizeLine_eq]))
theorem ct_join {x : Str} {xs : List Str} (hok : JoinOk x xs = true) : CallT prog w s₀ n (.builtin "str.join") [.str x, .lst (xs.map .str)] (.str (Txt.join x xs)) := by
  intro A Z R s vs ok W i
  obtain ⟨_, _, rfl, i1, i2⟩ := i.two_inv
  ·
      obtain ⟨t, rfl⟩ := i1.str_inv
      obtain ⟨_, _, _, rfl, e, hz, ha⟩ := i2.lst_inv
      obtain ⟨l, rfl, hl⟩ := isAll_strs_inv ha
      exact SC.join (l := l) ⟨_, W.frz _ _ e, rfl, _, rfl⟩ hl hok fun t' k => Post.here (W.tok _) (.str _ _)

/-! views -/
theorem ct_items {kds : List (Str × D)} : CallT prog w s₀ n (.builtin "dict.items") [.dct kds] (.itm kds) := by
  intro A Z R s vs ok W i
  obtain ⟨_, rfl, i1⟩ := i.one_inv
  ·
    cases id i1 with
    | dct e hm hz he hn =>
      obtain ⟨kvs, p, hkk, ks, g1, g2, hl, g3⟩ := he.split
      have hd := dict_of (Z := Z) (W.frz _ _ e) p ks hkk hn
      refine call_meetsIn PySem.F.slot_dict_items ⟨_, W.frz _ _ e, rfl⟩ PySem.F.entry_dict_items (PySem.F.args_dict_items_1 _) (meets_dict_items (strKind prog w) _ hm) ⟨⟨kvs, hd⟩, ?_⟩
      exact newSeq (A := A) (vs := []) _ W rfl fun Z' l e' => .itm e' (i1.mono l)
theorem ct_values {kds : List (Str × D)} : CallT prog w s₀ n (.builtin "dict.values") [.dct kds] (.vls kds) := by
  intro A Z R s vs ok W i
  obtain ⟨_, rfl, i1⟩ := i.one_inv
  ·
    cases id i1 with
    | dct e hm hz he hn =>
      obtain ⟨kvs, p, hkk, ks, g1, g2, hl, g3⟩ := he.split
      have hd := dict_of (Z := Z) (W.frz _ _ e) p ks hkk hn
      refine call_meetsIn PySem.F.slot_dict_values ⟨_, W.frz _ _ e, rfl⟩ PySem.F.entry_dict_values (PySem.F.args_dict_values_1 _) (meets_dict_values (strKind prog w) _ hm) ⟨⟨kvs, hd⟩, ?_⟩
      exact newSeq (A := A) (vs := []) _ W rfl fun Z' l e' => .vls e' (i1.mono l)

/-- all new cells are frozen -/
theorem Wd.fresh {s : Shared} {Z R : Fz} (W : Wd s₀ Z R s) {h' : Heap} {tk : Nat} (hk : ∀ b o, s.heap.get? b = some o → h'.get? b = some o) :
    ∃ Z', FLe Z Z' ∧ Wd s₀ Z' R { s with heap := h', toks := tk } ∧ ∀ b o, s.heap.objs.size ≤ b → h'.get? b = some o → Z' b = some o := by
  let Z' : Fz := fun b => if s.heap.objs.size ≤ b then h'.get? b else Z b
  have h1 : ∀ b, b < s.heap.objs.size → Z' b = Z b := fun b hb => if_neg (Nat.not_le.mpr hb)
  have h2 : ∀ b, s.heap.objs.size ≤ b → Z' b = h'.get? b := fun b hb => if_pos hb
  have hle : FLe Z Z' := fun b o e => by rw [h1 b (W.cur b o e).lt]; exact e
  refine ⟨Z', hle, ⟨⟨W.base.1, fun b o e => hle _ _ (W.base.2 b o e)⟩, fun b o e => ?_, fun b o e => hk b o (W.rest b o e), fun b o e => ?_, W.os, W.bare⟩, fun b o hb e => by rw [h2 b hb]; exact e⟩
  · by_cases hb : s.heap.objs.size ≤ b
    · rw [h2 b hb] at e; exact .inl e
    · rw [h1 b (Nat.lt_of_not_le hb)] at e; exact (W.cur b o e).keep (hk b)
  · rw [h1 b (Heap.lt_size (W.rest b o e))]; exact W.off b o e
theorem ct_list_items {kds : List (Str × D)} : CallT prog w s₀ n (.type "list") [.itm kds] (.lst (kds.map fun kd => .tup [.str kd.1, kd.2])) := by
  intro A Z R s vs ok W i
  obtain ⟨_, rfl, i1⟩ := i.one_inv
  ·
    obtain ⟨_, _, rfl, ev, id⟩ := i1.itm_inv
    ·
      obtain ⟨_, _, e, hm, hz, he, hn⟩ := id.dct_ref
      rename_i v l es m
      obtain ⟨kvs, p, hkk, ks, h1, h2, hlen, h3⟩ := he.split
      have hda : s.heap.DictAt (strKind prog w) l kvs m := ⟨_, es.toArray, W.frz _ _ e, ⟨rfl, rfl, rfl⟩, rfl, ks, by simpa using p, hkk ▸ hn⟩
      have hkl : kvs.length ≤ sizeLine := by have := p.length; omega
      refine kdx_call (knd := strKind prog w) (kvs := kvs) (ep := m) ok.handled ⟨_, W.frz _ _ ev, rfl, rfl⟩ hda hkl fun h' tk acc c as hk hS hal hG hacc => ?_
      obtain ⟨Z', le, W', hnew⟩ := W.fresh (tk := tk) hk
      refine ⟨Z', le, W', ?_⟩
      have hS' := hnew _ _ (Nat.le_refl _) hS
      have eacc : acc = (as.map Value.ref).toArray := by rw [← hacc]
      subst eacc
      refine .lst hS' (by simp; omega) ?_
      have key : ∀ (as : List Addr) (j : Nat) (kds' : List (Str × D)) (kvs' : List (Str × Value)), as.length = kvs'.length → kvs'.map (·.1) = kds'.map (·.1) → IsAll (hsOf prog w) Z' (kvs'.map (·.2)) (kds'.map (·.2)) →
          (∀ (i : Nat) (a : Addr), as[i]? = some a → ∃ key k x, kvs'[i]? = some (k, x) ∧ (strKind prog w).is k key = true ∧ Z' a = some (tupO [key, x] 0)) → IsAll (hsOf prog w) Z' (as.map Value.ref) (kds'.map fun kd => .tup [.str kd.1, kd.2]) := by
        intro as
        induction as with
        | nil =>
          intro j kds' kvs' q1 q2 q3 q4
          cases kvs' with
          | nil => cases kds' with
            | nil => exact .nil
            | cons => cases q2
          | cons => cases q1
        | cons a as ih =>
          intro j kds' kvs' q1 q2 q3 q4
          cases kvs' with
          | nil => cases q1
          | cons kv kvs' => cases kds' with
            | nil => cases q2
            | cons kd kds' =>
              simp only [List.map_cons, List.cons.injEq] at q2
              cases q3 with
              | cons j1 jr =>
                obtain ⟨key, k, x, e1, e2, e3⟩ := q4 0 a rfl
                simp at e1
                obtain ⟨t, rfl⟩ := Value.isStrOf_shape e2
                have ek : kd.1 = k := by rw [← q2.1, e1]
                have ex : kv.2 = x := by rw [e1]
                have j1 : Is (hsOf prog w) Z' kv.2 kd.2 := j1
                rw [ex] at j1
                refine .cons (.tup e3 (by simp [sizeLine_eq]) (.cons (ek ▸ .str _ _) (.cons j1 .nil))) (ih j kds' kvs' (by simpa using q1) q2.2 jr fun i b hb => q4 (i + 1) b hb)
      refine key as 0 kds kvs hal hkk (h3.mono le) fun i a ha => ?_
      obtain ⟨key, k, x, e1, e2, e3⟩ := hG.pairs i a ha
      exact ⟨key, k, x, e1, e2, hnew _ _ (Nat.le_of_lt (hG.above a (List.mem_of_getElem? ha))) e3⟩

/-! sums -/
theorem ct_sum {is : List Int} : CallT prog w s₀ n (.builtin "sum") [.lst (is.map .int)] (.int is.sum) := by
  intro A Z R s vs ok W i
  obtain ⟨_, rfl, i1⟩ := i.one_inv
  ·
    obtain ⟨_, _, _, rfl, e, hz, ha⟩ := i1.lst_inv
    ·
      rename_i l vs m
      have hl : s.heap.IsList l vs.toArray := ⟨_, W.frz _ _ e, rfl, _, rfl⟩
      have hne : l ≠ s.heap.objs.size := Nat.ne_of_lt (Heap.lt_size (W.frz _ _ e))
      have hval : ∀ (i : Nat) (v : Value), vs[i]? = some v → ∃ t, v = .int (is.getD i 0) t := by
        intro i v hv
        obtain ⟨d, hd, iv⟩ := ha.getV hv
        rw [List.getElem?_map] at hd
        obtain ⟨k, hk, rfl⟩ := Option.map_eq_some_iff.mp hd
        cases iv
        exact ⟨_, by rw [List.getD_eq_getElem?_getD, hk]; rfl⟩
      refine call_sum_walkAnyS (wpAny_pyIter_list hl ⟨s.heap.objs.size, _, _, _, _, _, _, fun i => is.getD i 0, rfl, (Walks.list (A := A.in1) ok.handled s.heap.objs.size l hne vs.toArray).toS, ?_, ?_, fun i v hv => hval i v (by simpa using hv), fun s' t' hm => ?_⟩)
      · exact ⟨⟨_, Heap.get?_push_size _ rfl, rfl, rfl⟩, ⟨_, Heap.get?_push_of_some _ (W.frz _ _ e), rfl, _, rfl⟩⟩
      · intro b hb
        have : b = s.heap.objs.size ∨ b = l := by simpa using hb
        show b < (s.heap.push _).objs.size
        rw [Heap.size_push]
        rcases this with rfl | rfl
        · exact Nat.lt_succ_self _
        · exact Nat.lt_succ_of_lt (Heap.lt_size (W.frz _ _ e))
      · have key : ∀ (l : List Int) (k : Nat), preSum (fun i => l.getD i 0) k = (l.take k).sum := by
          intro l k
          induction k with
          | zero => simp [preSum]
          | succ k ih =>
            rw [preSum, ih, List.take_add_one, List.sum_append]
            congr 1
            rw [List.getD_eq_getElem?_getD]
            cases l[k]? <;> simp
        have hlen : vs.toArray.size = is.length := by rw [List.size_toArray, ha.length, List.length_map]
        rw [key, hlen, List.take_length]
        rw [Moved.eq_with hm]
        have hfree := W.none_of_ge (a := s.heap.objs.size) (Nat.le_refl _)
        exact Post.here (W.but (tk := s'.toks) (· = s.heap.objs.size) (fun a ea => ea ▸ hfree) fun b ob hb eb => hm.heap b ob (by simpa using hb) (Heap.get?_push_of_some _ eb)) (.int _ _)
/-! tuple of a list -/
theorem ct_tuple_list {ds : List D} : CallT prog w s₀ n (.type "tuple") [.lst ds] (.tup ds) := by
  intro A Z R s vs ok W i
  obtain ⟨_, rfl, i1⟩ := i.one_inv
  ·
    obtain ⟨_, _, _, rfl, e, hz, ha⟩ := i1.lst_inv
    ·
      rename_i l vs m
      refine call_tuple_list ⟨_, W.frz _ _ e, rfl, _, rfl⟩ (fun h' hk => ?_) (by rw [List.size_toArray]; exact hz)
      exact newSeq (A := A) (vs := vs) (s := { s with heap := h' }) (tupO vs 0) (W.grow (tk := s.toks) hk) rfl fun Z' lz e' => .tup e' hz (ha.mono lz)
end Mine
namespace Mine
open PySem PySem.Calls PySem.W PyProof.Rows
variable {prog : Program} {w : World} {s₀ : Shared} {n : Nat} {env : Env} {σ : Sto}

/-! data that are alike -/
def Smp : Nat → D → Prop
  | _, .int _ => True
  | _, .str _ => True
  | k + 1, .tup ds => ∀ d ∈ ds, Smp k d
  | k + 1, .lst ds => ∀ d ∈ ds, Smp k d
  | _, _ => False
theorem all_range_true (k : Nat) : ((List.range k).all fun _ => true) = true := by simp
theorem eqAt_smp {hs : Str → Int} {Z : Fz} {s : Shared} (hZ : FX Z s.heap) : ∀ (k : Nat) {d : D} {v v' : Value} {A : Around}, A.units + k < cLine → Smp k d → Is hs Z v d → Is hs Z v' d → SeqAt.EqAt A s v v' true := by
  have hints : ∀ {i : Int} {v v' : Value} {A : Around}, Is hs Z v (.int i) → Is hs Z v' (.int i) → SeqAt.EqAt A s v v' true := by
    intro i v v' A h1 h2
    cases h1 with
    | int _ t1 => cases h2 with
      | int _ t2 =>
        have := SeqAt.EqAt.int_int (A := A) (s := s) i t1 i t2
        simpa using this
  have hstrs : ∀ {x : Str} {v v' : Value} {A : Around}, Is hs Z v (.str x) → Is hs Z v' (.str x) → SeqAt.EqAt A s v v' true := by
    intro x v v' A h1 h2
    cases h1 with
    | str _ t1 => cases h2 with
      | str _ t2 =>
        have := (SeqRoads2.EqGives.str x x t1 t2).at A s
        simpa using this
  intro k
  induction k with
  | zero =>
    intro d v v' A hu hd h1 h2
    cases d with
    | int i => exact hints h1 h2
    | str x => exact hstrs h1 h2
    | _ => exact hd.elim
  | succ k ih =>
    intro d v v' A hu hd h1 h2
    have elems : ∀ {vs ws : List Value} {ds : List D}, IsAll hs Z vs ds → IsAll hs Z ws ds → (∀ d ∈ ds, Smp k d) → ∀ j (a : j < vs.toArray.size) (b : j < ws.toArray.size), SeqAt.EqAt A.in1 s vs.toArray[j] ws.toArray[j] true := by
      intro vs ws ds i1 i2 hk j a b
      have a' : j < vs.length := by simpa using a
      obtain ⟨d, hd, id1⟩ := i1.getV (List.getElem?_eq_getElem a')
      obtain ⟨u, hu', id2⟩ := i2.get hd
      have b' : j < ws.length := by simpa using b
      rw [List.getElem?_eq_getElem b'] at hu'
      cases hu'
      have := ih (A := A.in1) (by show A.units + 1 + k < cLine; omega) (hk d (List.mem_of_getElem? hd)) id1 id2
      simpa using this
    cases d with
    | int i => exact hints h1 h2
    | str x => exact hstrs h1 h2
    | tup ds =>
      obtain ⟨_, _, _, rfl, e1, z1, i1⟩ := h1.tup_inv
      ·
        obtain ⟨_, _, _, rfl, e2, z2, i2⟩ := h2.tup_inv
        ·
          rename_i a1 vs1 m1 a2 vs2 m2
          by_cases hne : a1 = a2
          · subst hne; exact SeqAt.EqAt.same _
          · refine SeqAt.EqAt.of_refs hne ?_
            have := SeqAt.RcAt.tuples (A := A) (s := s) (e := fun _ => true) (items := vs1.toArray) (items2 := vs2.toArray) ⟨_, hZ _ _ e1 (by intro q; cases q), rfl, _, rfl⟩ ⟨_, hZ _ _ e2 (by intro q; cases q), rfl, _, rfl⟩ (by omega) (elems i1 i2 hd)
            rw [all_range_true] at this
            have hl : vs1.length = vs2.length := i1.length.trans i2.length.symm
            simpa [hl] using this
    | lst ds =>
      obtain ⟨_, _, _, rfl, e1, z1, i1⟩ := h1.lst_inv
      ·
        obtain ⟨_, _, _, rfl, e2, z2, i2⟩ := h2.lst_inv
        ·
          rename_i a1 vs1 m1 a2 vs2 m2
          by_cases hne : a1 = a2
          · subst hne; exact SeqAt.EqAt.same _
          · refine SeqAt.EqAt.of_refs hne ?_
            have hl : vs1.toArray.size = vs2.toArray.size := by rw [List.size_toArray, List.size_toArray]; exact i1.length.trans i2.length.symm
            have := SeqAt.RcAt.lists (A := A) (s := s) (e := fun _ => true) (items := vs1.toArray) (items2 := vs2.toArray) ⟨_, hZ _ _ e1 (by intro q; cases q), rfl, _, rfl⟩ ⟨_, hZ _ _ e2 (by intro q; cases q), rfl, _, rfl⟩ hl (by omega) (elems i1 i2 hd)
            rw [all_range_true] at this
            exact this
    | _ => exact hd.elim
theorem ok_units {A : Around} (ok : Ok n A) : A.units ≤ 1000 := by have := ok.units; omega
theorem cLine_eq : cLine = 9900 := rfl
theorem smp_elems {hs : Str → Int} {Z : Fz} {s : Shared} {A : Around} {k : Nat} {vs ws : List Value} {ds : List D} (hZ : FX Z s.heap) (hu : A.units + k < cLine) (i1 : IsAll hs Z vs ds) (i2 : IsAll hs Z ws ds) (hk : ∀ d ∈ ds, Smp k d) :
    ∀ j (a : j < vs.toArray.size) (b : j < ws.toArray.size), SeqAt.EqAt A s vs.toArray[j] ws.toArray[j] true := by
  intro j a b
  have a' : j < vs.length := by simpa using a
  obtain ⟨d, hd, id1⟩ := i1.getV (List.getElem?_eq_getElem a')
  obtain ⟨u, hu', id2⟩ := i2.get hd
  have b' : j < ws.length := by simpa using b
  rw [List.getElem?_eq_getElem b'] at hu'
  cases hu'
  have := eqAt_smp hZ k hu (hk d (List.mem_of_getElem? hd)) id1 id2
  simpa using this
/-- equal lists, equal tuples: != says no -/
theorem op_ne_lst {ds : List D} (k : Nat) (hk : k ≤ 50) (hd : ∀ d ∈ ds, Smp k d) : Op2 prog w s₀ n (compareOp .NotEq) (.lst ds) (.lst ds) (.bool false) := by
  intro A Z R s u v ok W i j
  obtain ⟨_, _, _, rfl, e1, z1, i1⟩ := i.lst_inv
  ·
    obtain ⟨_, _, _, rfl, e2, z2, i2⟩ := j.lst_inv
    ·
      rename_i a1 vs1 m1 a2 vs2 m2
      have hu := ok_units ok
      have hl : vs1.toArray.size = vs2.toArray.size := by rw [List.size_toArray, List.size_toArray]; exact i1.length.trans i2.length.symm
      have := SeqAt.RcNeAt.lists (A := A) (s := s) (e := fun _ => true) (items := vs1.toArray) (items2 := vs2.toArray) ⟨_, W.frz _ _ e1, rfl, _, rfl⟩ ⟨_, W.frz _ _ e2, rfl, _, rfl⟩ hl (by rw [cLine_eq]; omega)
        (smp_elems (A := A.in1) W.fx (by show A.units + 1 + k < cLine; rw [cLine_eq]; omega) i1 i2 hd)
      rw [all_range_true] at this
      exact this prog w nope _ (Post.here W (.bool _))
theorem op_ne_tup {ds : List D} (k : Nat) (hk : k ≤ 50) (hd : ∀ d ∈ ds, Smp k d) : Op2 prog w s₀ n (compareOp .NotEq) (.tup ds) (.tup ds) (.bool false) := by
  intro A Z R s u v ok W i j
  obtain ⟨_, _, _, rfl, e1, z1, i1⟩ := i.tup_inv
  ·
    obtain ⟨_, _, _, rfl, e2, z2, i2⟩ := j.tup_inv
    ·
      rename_i a1 vs1 m1 a2 vs2 m2
      have hu := ok_units ok
      have hl : vs1.length = vs2.length := i1.length.trans i2.length.symm
      have := SeqAt.RcNeAt.tuples (A := A) (s := s) (e := fun _ => true) (items := vs1.toArray) (items2 := vs2.toArray) ⟨_, W.frz _ _ e1, rfl, _, rfl⟩ ⟨_, W.frz _ _ e2, rfl, _, rfl⟩ (by rw [cLine_eq]; omega)
        (smp_elems (A := A.in1) W.fx (by show A.units + 1 + k < cLine; rw [cLine_eq]; omega) i1 i2 hd)
      rw [all_range_true] at this
      refine this prog w nope _ (Post.here W ?_)
      have hb : (!(true && vs1.toArray.size == vs2.toArray.size)) = false := by simp [hl]
      rw [hb]; exact .bool _
/-- == [] -/
theorem op_eq_nil {ds : List D} {b : Bool} (hb : b = (ds.length == 0)) : Op2 prog w s₀ n (compareOp .Eq) (.lst ds) (.lst []) (.bool b) := by
  intro A Z R s u v ok W i j
  obtain ⟨_, _, _, rfl, e1, z1, i1⟩ := i.lst_inv
  ·
    obtain ⟨_, _, _, rfl, e2, z2, i2⟩ := j.lst_inv
    ·
      cases i2
      rename_i a1 vs1 m1 a2 m2
      have hu := ok_units ok
      have hlen := i1.length
      cases vs1 with
      | nil =>
        have : b = true := by rw [hb]; simp at hlen; simp [← hlen]
        subst this
        exact SeqAt.eq_listAt (e := fun _ => true) (items := ([] : List Value).toArray) (items2 := ([] : List Value).toArray) ⟨_, W.frz _ _ e1, rfl, _, rfl⟩ ⟨_, W.frz _ _ e2, rfl, _, rfl⟩ rfl (by rw [cLine_eq]; omega) (fun j a => by simp at a) (Post.here W (.bool _))
      | cons x r =>
        have : b = false := by rw [hb]; simp at hlen; simp [← hlen]
        subst this
        exact SeqAt.eq_list_lengthsAt (items := (x :: r).toArray) (items2 := ([] : List Value).toArray) ⟨_, W.frz _ _ e1, rfl, _, rfl⟩ ⟨_, W.frz _ _ e2, rfl, _, rfl⟩ (by simp) (by rw [cLine_eq]; omega) (Post.here W (.bool _))

/-! in a list of texts -/
def strIs (y : Str) : Value → Bool
  | .str x _ => x == y
  | _ => false
theorem strIs_any (y : Str) : ∀ (l : List (Str × Tok)), (strValues l).any (strIs y) = (l.map (·.1)).contains y
  | [] => rfl
  | (x, t) :: r => by
    have ih := strIs_any y r
    have e1 : (strValues ((x, t) :: r)).any (strIs y) = ((x == y) || (strValues r).any (strIs y)) := rfl
    have e2 : (x == y) = (y == x) := by rw [Bool.eq_iff_iff, beq_iff_eq, beq_iff_eq]; exact eq_comm
    rw [e1, ih, List.map_cons, List.contains_cons, e2]
theorem str_eqAt {hs : Str → Int} {Z : Fz} {s : Shared} {A : Around} {vs : List Value} {xs : List Str} {y : Str} {t : Tok} (i : IsAll hs Z vs (xs.map .str)) :
    ∃ e : Value → Bool, (∀ v, v ∈ vs.toArray → SeqAt.EqAt A s v (.str y t) (e v)) ∧ vs.toArray.any e = xs.contains y := by
  obtain ⟨l, rfl, hl⟩ := isAll_strs_inv i
  refine ⟨strIs y, fun v hv => ?_, ?_⟩
  · rw [List.mem_toArray] at hv
    obtain ⟨⟨x, t'⟩, hm, rfl⟩ := List.mem_map.mp hv
    have := (SeqRoads2.EqGives.str x y t' t).at A s
    rw [toList_beq] at this
    exact this
  · rw [← hl, List.any_toArray]
    exact strIs_any y l
theorem op_notin_lst {xs : List Str} {y : Str} : Op2 prog w s₀ n (compareOp .NotIn) (.str y) (.lst (xs.map .str)) (.bool (!xs.contains y)) := by
  intro A Z R s u v ok W i j
  obtain ⟨t, rfl⟩ := i.str_inv
  ·
    obtain ⟨_, _, _, rfl, e, z, ha⟩ := j.lst_inv
    ·
      rename_i l vs m
      obtain ⟨e', h1, h2⟩ := str_eqAt (A := A.in1) (s := s) (y := y) (t := t) ha
      exact SeqAt.notIn_listAt e' ⟨_, W.frz _ _ e, rfl, _, rfl⟩ h1 (Post.here W (h2 ▸ .bool _))
end Mine
namespace Mine
open PySem PySem.Calls PySem.W PyProof.Rows
variable {prog : Program} {w : World} {s₀ : Shared} {n : Nat} {env : Env} {σ : Sto}

/-! equal values with dicts in them: one program, one world -/
def EqIn (prog : Program) (w : World) (A : Around) (s : Shared) (y x : Value) : Prop :=
  ∀ (E : Value → Shared → Prop) (Q : Bool → Shared → Prop), Q true s → wpAny (model prog w) A (eqBool y x) Q E s
theorem eqIn_of_at {A : Around} {s : Shared} {y x : Value} (h : SeqAt.EqAt A s y x true) : EqIn prog w A s y x := fun E Q q => h prog w E Q q
theorem eqIn_of_refs {A : Around} {s : Shared} {l b : Addr} (h : l ≠ b → ∀ (E : Value → Shared → Prop) (Q : Value → Shared → Prop), Q (.bool true) s → wpAny (model prog w) A (richCompare .Eq (.ref l) (.ref b)) Q E s) : EqIn prog w A s (.ref l) (.ref b) := by
  by_cases hne : l = b
  · subst hne; exact eqIn_of_at (SeqAt.EqAt.same _)
  · intro E Q q
    unfold eqBool
    refine wpAny_holding (wpAny_ite_split (fun hab => absurd (by have := eq_of_beq hab; injection this) hne) (fun _ => ?_))
    exact wpAny_bind (h hne E _ (wpAny_truthy_bool q))
def AlikeS (cs cs' : List (Str × D)) : Prop := cs.length = cs'.length ∧ ∀ p ∈ cs, dget cs' p.1 = some p.2
theorem hits_smp {Z : Fz} {s : Shared} {A : Around} {k : Nat} {kb : List (Str × Value)} {cs' : List (Str × D)} (hZ : FX Z s.heap) (hu : A.units + k < cLine)
    (hb : ∀ x d, dget cs' x = some d → ∃ v, valueAt kb x = some v ∧ Is (hsOf prog w) Z v d) : ∀ {ka : List (Str × Value)} {cs : List (Str × D)}, ka.map (·.1) = cs.map (·.1) → IsAll (hsOf prog w) Z (ka.map (·.2)) (cs.map (·.2)) →
      (∀ p ∈ cs, dget cs' p.1 = some p.2 ∧ Smp k p.2) → KeqHits A s kb ka true
  | [], [], _, _, _ => .nil
  | [], _ :: _, e, _, _ => nomatch e
  | _ :: _, [], e, _, _ => nomatch e
  | (x, v) :: ka, (y, d) :: cs, e, i, h => by
    simp only [List.map_cons, List.cons.injEq] at e
    obtain ⟨rfl, e⟩ := e
    cases i with
    | cons i1 ir =>
      obtain ⟨h1, h2⟩ := h (x, d) List.mem_cons_self
      obtain ⟨u, hu', iu⟩ := hb x d h1
      have := KeqHits.hit (e := true) (b := true) (A := A) (s := s) (kb := kb) (k := x) (v := v) (r := ka) hu' (eqAt_smp hZ k hu h2 i1 iu) (hits_smp hZ hu hb e ir fun p hp => h p (List.mem_cons_of_mem _ hp))
      simpa using this
theorem eqIn_dct {Z : Fz} {s : Shared} {A : Around} {v v' : Value} {cs cs' : List (Str × D)} (k : Nat) (hZ : FX Z s.heap) (hu : A.units + 1 + k < cLine) (i : Is (hsOf prog w) Z v (.dct cs)) (i' : Is (hsOf prog w) Z v' (.dct cs')) (hl : cs.length = cs'.length)
    (h : ∀ p ∈ cs, dget cs' p.1 = some p.2 ∧ Smp k p.2) : EqIn prog w A s v v' := by
  obtain ⟨_, _, _, rfl, e1, m1, z1, en1, n1⟩ := i.dct_inv
  ·
    obtain ⟨_, _, _, rfl, e2, m2, z2, en2, n2⟩ := i'.dct_inv
    ·
      refine eqIn_of_refs fun _ E Q q => ?_
      obtain ⟨ka, pa, ka1, ka2, _, _, hla, a3⟩ := en1.split
      obtain ⟨kb, pb, kb1, kb2, b1, _, hlb, b3⟩ := en2.split
      have da := dict_of (Z := Z) (hZ _ _ e1 (by intro q; cases q)) pa ka2 ka1 n1
      have db := dict_of (Z := Z) (hZ _ _ e2 (by intro q; cases q)) pb kb2 kb1 n2
      refine keq_eq (r := true) m1 m2 da db (by omega) (fun _ => hits_smp (A := A.in1) hZ (by show A.units + 1 + k < cLine; exact hu) b1 ka1 a3 h) ?_
      have : (ka.length == kb.length && true) = true := by rw [hla, hlb, hl]; simp
      rw [this]; exact q
theorem rc_tup {s : Shared} {A : Around} {l b : Addr} {xs ys : List Value} {m m' : Nat} (h1 : s.heap.get? l = some (tupO xs m)) (h2 : s.heap.get? b = some (tupO ys m')) (hu : A.units < cLine) (hl : xs.length = ys.length)
    (he : ∀ p ∈ xs.zip ys, EqIn prog w A.in1 s p.1 p.2) : ∀ (E : Value → Shared → Prop) (Q : Value → Shared → Prop), Q (.bool true) s → wpAny (model prog w) A (richCompare .Eq (.ref l) (.ref b)) Q E s := by
  intro E Q q
  have t1 : s.TypeIs (.ref l) "tuple" := ⟨_, h1, rfl⟩
  have t2 : s.TypeIs (.ref b) "tuple" := ⟨_, h2, rfl⟩
  refine wpAny_richCompare_same_room (op := .Eq) t1 t2 PySem.F.slot_tuple_eq (wpAny_call_entry PySem.F.slot_tuple_eq t1 PySem.F.entry_tuple_eq ?_ (PySem.F.args_tuple_eq_2 _ _)) hu
  obtain ⟨hp, g, d, tk, os⟩ := s
  have f2 := AutoSeq1.sub_tuple_tuple
  wp_walk using AutoSeq1.wpAny_loadPart' h1, AutoSeq1.wpAny_loadPart' h2, wpAny_forIn_list _ (fun rest b s' => b.1 = none ∧ s' = ⟨hp, g, d, tk, os⟩ ∧ ∀ p ∈ rest, EqIn prog w A.in1 ⟨hp, g, d, tk, os⟩ p.1 p.2) _
  case turn =>
    rintro ⟨y, x⟩ rest b s' ⟨hb', rfl, hz⟩
    refine wpAny_bind (hz (y, x) List.mem_cons_self _ _ ?_)
    wp_walk
    exact ⟨rfl, rfl, fun p hp => hz p (List.mem_cons_of_mem _ hp)⟩
  case fin =>
    rintro ⟨b1, b2⟩ s' ⟨hb', rfl, hz⟩
    simp only at hb'
    subst hb'
    wp_walk
    refine ⟨_, rfl, ?_, ?_⟩
    · exact fun x => nomatch x
    · have : (xs.toArray.size == ys.toArray.size) = true := by simp [hl]
      show Q (.bool (xs.toArray.size == ys.toArray.size)) _
      rw [this]; exact q
  case h =>
    exact ⟨rfl, rfl, fun p hp => he p (by simpa using hp)⟩

/-- the entries of two dicts, alike -/
def EntEq (prog : Program) (w : World) (A : Around) (s : Shared) (es' : List DictEntry) (e : DictEntry) : Prop :=
  ∃ x t j f, e.key = .str x t ∧ e.hash = hsOf prog w x ∧ (es'.toArray.findIdx? fun e' => (strKind prog w).is x e'.key) = some j ∧ es'[j]? = some f ∧ EqIn prog w A s e.val f.val
theorem same_pairs {s : Shared} {A : Around} {nm : String} {a b : Addr} {es es' : List DictEntry} {m m' : Nat} (h1 : s.heap.get? a = some (dctO es m)) (h2 : s.heap.get? b = some (dctO es' m')) (ha : (a == sysModules) = false) (hb : (b == sysModules) = false)
    (ks : PySem.KeysOf (PySem.strKind prog w) es'.toArray) (hl : es.length = es'.length) (he : ∀ e ∈ es, EntEq prog w A s es' e) {E : Value → Shared → Prop} {Q : Bool → Shared → Prop} (q : Q true s) : wpAny (model prog w) A (Builtin.Dict.samePairs nm a b) Q E s := by
  unfold Builtin.Dict.samePairs Builtin.Dict.showsAll
  rw [if_neg (by rw [ha]; exact Bool.false_ne_true), if_neg (by rw [hb]; exact Bool.false_ne_true)]
  refine wpAny_bind (wpAny_pure (wpAny_bind (wpAny_pure (wpAny_bind (wpAny_dictEntries h1 rfl ?_)))))
  dsimp only
  refine wpAny_bind (wpAny_dictEntries h2 rfl ?_)
  rw [if_neg (by simp [hl])]
  refine wpAny_bind (wpAny_dictEpoch h1 rfl (wpAny_bind ?_))
  rw [Std.Legacy.Range.forIn_eq_forIn_range']
  simp only [Std.Legacy.Range.size, Nat.sub_zero, Nat.add_sub_cancel, Nat.div_one]
  refine wpAny_forIn_list _ (fun rest r s' => s' = s ∧ r = (none, ()) ∧ ∀ i ∈ rest, i < es.length) _ ?_ ?_ _ _ ⟨rfl, rfl, fun i hi => by
    rw [List.mem_range'_1, List.size_toArray] at hi; omega⟩
  · rintro i rest r s' ⟨rfl, rfl, hi⟩
    have hlt := hi i List.mem_cons_self
    obtain ⟨x, t, j, f, hk, hh, hj, hf, heq⟩ := he es[i] (List.getElem_mem hlt)
    have hjlt : j < es'.length := (List.getElem?_eq_some_iff.mp hf).1
    refine wpAny_bind (wpAny_dictEntries h1 rfl ?_)
    have e1 : es.toArray[i]? = some es[i] := by simp [hlt]
    rw [e1]
    dsimp only
    refine wpAny_bind (wpAny_holding ?_)
    rw [hk, hh]
    refine wpAny_bind (wpAny_dictFind_of (strKind_is prog w x t) h2 rfl ks ?_)
    rw [hj]
    dsimp only
    refine wpAny_bind (wpAny_dictEntries h2 rfl ?_)
    have e2 : es'.toArray[j]? = some f := by simpa using hf
    rw [e2]
    dsimp only
    refine wpAny_holding (heq _ _ ?_)
    rw [if_neg (by decide)]
    refine wpAny_bind (wpAny_dictEpoch h1 rfl ?_)
    rw [if_neg (by simp)]
    exact wpAny_pure ⟨rfl, rfl, fun k hk => hi k (List.mem_cons_of_mem _ hk)⟩
  · rintro r s' ⟨rfl, rfl, _⟩
    exact wpAny_pure q
theorem op_ne_dct {kds kds' : List (Str × D)} (hl : kds.length = kds'.length)
    (h : ∀ p ∈ kds, ∃ d', dget kds' p.1 = some d' ∧ ∀ (A : Around) (Z : Fz) (s : Shared) v v', A.units + 50 < cLine → FX Z s.heap → Is (hsOf prog w) Z v p.2 → Is (hsOf prog w) Z v' d' → EqIn prog w A s v v') :
    Op2 prog w s₀ n (compareOp .NotEq) (.dct kds) (.dct kds') (.bool false) := by
  intro A Z R s u v ok W i j
  obtain ⟨_, _, _, rfl, e1, m1, z1, en1, n1⟩ := i.dct_inv
  ·
    obtain ⟨_, _, _, rfl, e2, m2, z2, en2, n2⟩ := j.dct_inv
    ·
      rename_i a es m b es' m'
      obtain ⟨kb, pb, kb1, kb2, b1, _, hlb, b3⟩ := en2.split
      have hu := ok_units ok
      have t1 : s.TypeIs (.ref a) "dict" := ⟨_, W.frz _ _ e1, rfl⟩
      have t2 : s.TypeIs (.ref b) "dict" := ⟨_, W.frz _ _ e2, rfl⟩
      have lenE : ∀ {es : List DictEntry} {kds : List (Str × D)}, IsEnts (hsOf prog w) Z es kds → es.length = kds.length := by
        intro es
        induction es with
        | nil => intro kds h; cases h; rfl
        | cons e r ih => intro kds h; cases h with | cons _ hr => simp [ih hr]
      have ents : ∀ {es : List DictEntry} {kds : List (Str × D)}, IsEnts (hsOf prog w) Z es kds → ∀ e ∈ es, ∃ x t d, e.key = .str x t ∧ e.hash = hsOf prog w x ∧ (x, d) ∈ kds ∧ Is (hsOf prog w) Z e.val d := by
        intro es
        induction es with
        | nil => intro kds h e he; cases he
        | cons e r ih =>
          intro kds h e' he'
          cases h with
          | cons hv hr =>
            rcases List.mem_cons.mp he' with rfl | he'
            · exact ⟨_, _, _, rfl, rfl, List.mem_cons_self, hv⟩
            · obtain ⟨x, t, d, q1, q2, q3, q4⟩ := ih hr e' he'
              exact ⟨x, t, d, q1, q2, List.mem_cons_of_mem _ q3, q4⟩
      have hits : ∀ e ∈ es, EntEq prog w A.in1 s es' e := by
        intro e he
        obtain ⟨x, t, d, q1, q2, q3, q4⟩ := ents en1 e he
        obtain ⟨d', h1, h2⟩ := h (x, d) q3
        obtain ⟨y, hy, iy⟩ := b1 x d' h1
        have hfind := pb.findIdx x
        have hfv := pb.find x
        rw [hy] at hfv
        cases hj : es'.findIdx? fun e => (PySem.strKind prog w).is x e.key with
        | none =>
          rw [List.findIdx?_eq_none_iff] at hj
          have : es'.find? (fun e => (PySem.strKind prog w).is x e.key) = none := List.find?_eq_none.mpr fun z hz => by simpa using hj z hz
          rw [this] at hfv
          cases hfv
        | some k =>
          have hfb := findBy_of_findIdx? (fun x e => (PySem.strKind prog w).is x e) es'.toArray x
          rw [List.findIdx?_toArray, hj] at hfb
          obtain ⟨hlt, _, _⟩ := List.findIdx?_eq_some_iff_getElem.mp hj
          have hval : es'[k].val = y := by
            have e1 : findBy (fun x e => (PySem.strKind prog w).is x e) es'.toArray x = some y := by
              rw [← hfv]; simp [findBy]
            rw [e1] at hfb
            simpa [hlt] using hfb.symm
          refine ⟨x, t, k, es'[k], q1, q2, by rw [List.findIdx?_toArray]; exact hj, List.getElem?_eq_getElem hlt, ?_⟩
          exact h2 A.in1 Z s _ _ (by show A.units + 1 + 50 < cLine; rw [cLine_eq]; omega) W.fx q4 (hval ▸ iy)
      refine wpAny_richCompare_same_room (op := .NotEq) t1 t2 PySem.F.slot_dict_ne (wpAny_call_entry PySem.F.slot_dict_ne t1 PySem.F.entry_dict_ne ?_ (PySem.F.args_dict_ne_2 _ _)) (by rw [cLine_eq]; omega)
      show wpAny _ _ (Builtin.Dict.dictSlotArgs "__ne__" ⟨[.ref a, .ref b], []⟩ >>= _) _ _ s
      refine wpAny_bind ?_
      unfold Builtin.Dict.dictSlotArgs
      refine wpAny_bind (wpAny_notOrdered_dict t1 ?_)
      show wpAny _ _ (pure (Value.ref a, Value.ref b)) _ _ s
      refine wpAny_pure ?_
      refine wpAny_bind (wpAny_isInstance (T := "dict") t2 PySem.F.sub_dict_dict ?_)
      simp only [Bool.not_true, Bool.false_eq_true, if_false]
      refine wpAny_bind (wpAny_pure (wpAny_bind (wpAny_pure ?_)))
      refine wpAny_bind (same_pairs (W.frz _ _ e1) (W.frz _ _ e2) m1 m2 kb2 (by rw [lenE en1, lenE en2, hl]) hits ?_)
      refine wpAny_pure ⟨_, rfl, ?_, ?_⟩
      · exact fun x => nomatch x
      · exact Post.here W (.bool _)
end Mine
namespace Mine
open PySem PySem.Calls PySem.W PyProof.Rows
variable {prog : Program} {w : World} {s₀ : Shared} {n : Nat} {env : Env} {σ : Sto}

/-! dict displays -/
theorem ev_dict_nil {lp : Pos} : Ev prog w s₀ n env σ (eval (.Dict [] [] lp) env) (.dct []) := by
  intro A Z R s ok W S
  show wpAny _ A (do standAt lp; dictDisplay []) _ _ s
  refine wpAny_bind (wpAny_standAt ?_)
  show wpAny _ A newDict _ _ s
  refine wpAny_newObj_type ?_ (by show (#[] : Array DictEntry).size ≤ sizeLine + 1; decide)
  exact newSeq (A := A) (vs := []) (dctO [] 0) W rfl fun Z' l e => .dct e (W.low (Nat.le_refl _)) (by decide) .nil .nil
theorem ev_dict_one {ke ve : Expr} {lp : Pos} {k : Str} {d : D} (hk : Ev prog w s₀ n env σ (eval ke env) (.str k)) (hv : Ev prog w s₀ n env σ (eval ve env) d) :
    Ev prog w s₀ n env σ (eval (.Dict [some ke] [ve] lp) env) (.dct [(k, d)]) := by
  intro A Z R s ok W S
  have hfree := W.none_of_ge (a := s.heap.objs.size) (Nat.le_refl _)
  have hlow := W.low (Nat.le_refl s.heap.objs.size)
  refine wpAny_Dict_pairs (knd := strKind prog w) (pairs := [(eval ke env, do let x ← eval ve env; standAt lp; pure x)]) rfl (by simp) (by simp) ?_
  have hRle : FLe R (fset R s.heap.objs.size (dctO [] 0)) := fle_fset hfree.2
  have W0 : Wd s₀ Z (fset R s.heap.objs.size (dctO [] 0)) { s with heap := s.heap.push (dctO [] 0) } :=
    (W.grow (h' := s.heap.push (dctO [] 0)) (tk := s.toks) fun _ _ e => Heap.get?_push_of_some _ e).addR hfree.1 (Heap.get?_push_size _ rfl)
  refine evalPairs_cons (wpAny_mono (hk A Z _ _ ok W0 (S.mono (.refl _) hRle)) ?_ fun _ _ x => x)
  rintro kv s1 ⟨Z1, l1, W1, i1⟩
  refine wpAny_bind (wpAny_mono (hv A Z1 _ s1 ok W1 (S.mono l1 hRle)) ?_ fun _ _ x => x)
  rintro vv s2 ⟨Z2, l2, W2, i2⟩
  obtain ⟨t, rfl⟩ := i1.str_inv
  ·
    refine wpAny_bind (wpAny_standAt (wpAny_pure (evalPairs_nil ?_)))
    have hget := W2.rest _ _ (fset_self (Z := R) (a := s.heap.objs.size) (o := dctO [] 0))
    refine ⟨[(k, vv)], ⟨strKind_is prog w k t, rfl, trivial⟩, ⟨_, #[], 0, hget, ⟨rfl, rfl, rfl⟩, rfl, fun e he => by simp at he, Pairs.nil, .nil⟩, fun h' hd' hs' => ?_⟩
    obtain ⟨o', es', ep, ho', ⟨c1, c2, c3⟩, hdat, hk', hp', hn'⟩ := hd'
    have ho'' : h'.get? s.heap.objs.size = some (dctO es'.toList ep) := by
      rw [ho']
      obtain ⟨q1, q2, q3, q4⟩ := o'
      dsimp only at c1 c2 c3 hdat
      subst c1; subst c2; subst c3; subst hdat
      simp
    have e0 : merged ([] : List (Str × Value)) [(k, vv)] = [(k, vv)] := rfl
    rw [e0] at hp'
    have hents := ents_of (Z := Z2) (kds := [(k, d)]) hp' (by simpa using hk') rfl (.one i2)
    have hz2 : Z2 s.heap.objs.size = none := W2.off _ _ fset_self
    have W3 : Wd s₀ Z2 R { s2 with heap := h', toks := s2.toks + 1 } := by
      have := W2.setR (tk := s2.toks + 1) fset_self hs' ho''
      refine this.subR fun b ob e => ?_
      by_cases hb : b = s.heap.objs.size
      · subst hb; rw [hfree.2] at e; cases e
      · rw [fset_ne hb, fset_ne hb]; exact e
    have W4 := W3.addZ hz2 hfree.2 ho''
    have hlen : es'.toList.length = 1 := by
      have := hp'.length
      simpa using this
    have le2 : FLe Z2 (fset Z2 s.heap.objs.size (dctO es'.toList ep)) := fle_fset hz2
    exact ⟨_, (l1.trans l2).trans le2, W4, .dct fset_self hlow (by rw [hlen]; decide) (hents.mono le2) (by simp)⟩

/-! the items of a dict, in a for -/
theorem srcE_items {elts : List Expr} {tk : Nat} {tp : Pos} {iter : Expr} {kds : List (Str × D)} (hi : Ev prog w s₀ n env σ (eval iter env) (.itm kds)) : SrcE prog w s₀ n env σ (.Tuple elts tk tp) iter (kds.map fun kd => .tup [.str kd.1, kd.2]) := by
  intro A Z R s ok W S
  refine wpAny_mono (hi A Z R s ok W S) ?_ fun _ _ x => x
  rintro v s1 ⟨Z1, l1, W1, i1⟩
  obtain ⟨_, _, rfl, ev, id⟩ := i1.itm_inv
  ·
    obtain ⟨_, _, e, hm, hz, he, hn⟩ := id.dct_ref
    ·
      rename_i v l es m
      obtain ⟨kvs, p, hkk, ks, h1, h2, hlen, h3⟩ := he.split
      have hda : ∀ h : Heap, FX Z1 h → h.DictAt (strKind prog w) l kvs m := fun h hI => ⟨_, es.toArray, hI _ _ e (by intro q; cases q), ⟨rfl, rfl, rfl⟩, rfl, ks, by simpa using p, hkk ▸ hn⟩
      refine wpAny_pyIter_items ⟨_, W1.frz _ _ ev, rfl, rfl⟩ (hda _ W1.fx) ?_
      have hfree := W1.none_of_ge (a := s1.heap.objs.size) (Nat.le_refl _)
      exact ⟨Z1, _, l1, W1.grow fun b ob e => Heap.get?_push_of_some _ e, one_in (Heap.get?_push_size _ rfl), one_off hfree.1 hfree.2, stp_items hda hkk hlen h3 (i := 0) rfl (Nat.zero_le _) (.refl _)⟩

/-! enumerate of a list -/
def two (a : Addr) (o : Obj) (b : Addr) (q : Obj) : Fz := fun x => if x = a then some o else if x = b then some q else none
theorem two_in {a b : Addr} {o q : Obj} {h : Heap} (ha : h.get? a = some o) (hb : h.get? b = some q) : FIn (two a o b q) h := fun x o' e => by
  unfold two at e
  by_cases h1 : x = a
  · rw [if_pos h1] at e; cases e; rw [h1]; exact ha
  · rw [if_neg h1] at e
    by_cases h2 : x = b
    · rw [if_pos h2] at e; cases e; rw [h2]; exact hb
    · rw [if_neg h2] at e; cases e
theorem two_fst {a b : Addr} {o q : Obj} : two a o b q a = some o := by simp [two]
theorem two_snd {a b : Addr} {o q : Obj} (h : b ≠ a) : two a o b q b = some q := by simp [two, h]
theorem two_off {a b : Addr} {o q : Obj} {Z R : Fz} (ha : Z a = none ∧ R a = none) (hb : Z b = none ∧ R b = none) : IOff (two a o b q) Z R := fun x o' e => by
  unfold two at e
  by_cases h1 : x = a
  · rw [h1]; exact ha
  · rw [if_neg h1] at e
    by_cases h2 : x = b
    · rw [h2]; exact hb
    · rw [if_neg h2] at e; cases e
theorem stp_enum {elts : List Expr} {tk : Nat} {tp : Pos} {e it l : Addr} {vs : List Value} {m : Nat} {ds : List D} {Z : Fz} (hl : Z l = some (lstO vs m)) (ha : IsAll (hsOf prog w) Z vs ds) (hne : e ≠ it) :
    ∀ {rest : List D} {i : Nat} {old : Value} {oi : Obj} {Z1 : Fz}, ds.drop i = rest → i ≤ ds.length → FLe Z Z1 → oi.cls = .type "list_iterator" → oi.data = .fields #[.ref l, .int i 0] →
      Stp prog w s₀ n (.Tuple elts tk tp) (.ref e) (rest.zipIdx.map fun p => .tup [.int ((i + p.2 : Nat) : Int), p.1]) Z1 (two e { cls := .type "enumerate", dict := none, data := .fields #[.none, .bool false, .ref it, rawInt i, .none, old], slots := #[] } it oi) := by
  intro rest
  induction rest with
  | nil =>
    intro i old oi Z1 hd hi hz hc hdat A Z' R s ok le W hI ho
    have hi' : i = ds.length := by
      have := congrArg List.length hd
      simp at this; omega
    subst hi'
    unfold nextGo
    have hie := hI _ _ (two_fst)
    have hii := hI _ _ (two_snd (Ne.symm hne))
    have hll : s.heap.IsList l vs.toArray := ⟨_, W.frz _ _ (le _ _ (hz _ _ hl)), rfl, _, rfl⟩
    refine wpAny_bind (wpAny_pyNext_enum_end ok.handled hie ⟨_, hii, hc, hdat⟩ hll (by simp [ha.length]) fun h' he => ?_)
    exact wpAny_pure ⟨rfl, W.but (tk := s.toks) (· = it) (fun a q => q ▸ ho _ _ (two_snd (Ne.symm hne))) fun b ob hb q => he b ob hb q⟩
  | cons d rs ih =>
    intro i old oi Z1 hd hi hz hc hdat A Z' R s ok le W hI ho
    have hx : ds[i]? = some d := by
      have := congrArg (fun l => l[0]?) hd
      simpa using this
    have hlt : i < ds.length := (List.getElem?_eq_some_iff.mp hx).1
    have hd' : ds.drop (i + 1) = rs := by
      have := congrArg List.tail hd
      simpa using this
    obtain ⟨x, hv, ix⟩ := ha.get hx
    have hie := hI _ _ (two_fst)
    have hii := hI _ _ (two_snd (Ne.symm hne))
    have oe := ho _ _ (two_fst)
    have oit := ho _ _ (two_snd (Ne.symm hne))
    have hll : s.heap.IsList l vs.toArray := ⟨_, W.frz _ _ (le _ _ (hz _ _ hl)), rfl, _, rfl⟩
    unfold nextGo
    refine wpAny_bind (wpAny_pyNext_enum_item hie ⟨_, hii, hc, hdat⟩ hll (x := x) (by simpa using hv) hne fun h' hout hit htup hsz hkeep => ?_)
    dsimp only
    refine wpAny_bind (wpAny_letOwnedTupleGo_enum hout fun h'' hit' hs' => ?_)
    obtain ⟨oi', hoi', hc', hdat'⟩ := hit
    have hnew : s.heap.objs.size ≠ e := Nat.ne_of_gt (Heap.lt_size hie)
    have hnew2 : s.heap.objs.size ≠ it := Nat.ne_of_gt (Heap.lt_size hii)
    have htup' : h''.get? s.heap.objs.size = some (tupO [.int i s.toks, x] 0) := hs'.extBut _ _ hnew htup
    have W1 : Wd s₀ Z' R { s with heap := h'', toks := s.toks + 1 } := W.but (tk := s.toks + 1) (fun a => a = e ∨ a = it) (fun a q => by rcases q with rfl | rfl <;> assumption)
      fun b ob hb q => hs'.extBut _ _ (fun z => hb (.inl z)) (hkeep b ob (fun z => hb (.inl z)) (fun z => hb (.inr z)) q)
    have hfree := W.none_of_ge (a := s.heap.objs.size) (Nat.le_refl _)
    have W2 := W1.addZ hfree.1 hfree.2 htup'
    have le2 : FLe Z' (fset Z' s.heap.objs.size (tupO [.int i s.toks, x] 0)) := fle_fset hfree.1
    have hoi'' : h''.get? it = some oi' := hs'.extBut _ _ (Ne.symm hne) hoi'
    have hres := ih (i := i + 1) (old := x) (oi := oi') (Z1 := fset Z' s.heap.objs.size (tupO [.int i s.toks, x] 0)) hd' hlt ((hz.trans le).trans le2) hc' hdat'
    have ei : rawInt (((i + 1 : Nat) : Int)) = rawInt ((i : Int) + 1) := by congr 1
    rw [ei] at hres
    have eidx : ((rs.zipIdx (0 + 1)).map fun p => D.tup [.int ((i + p.2 : Nat) : Int), p.1]) = rs.zipIdx.map fun p => D.tup [.int ((i + 1 + p.2 : Nat) : Int), p.1] := by
      rw [List.zipIdx_eq_map_add, List.map_map]
      apply List.map_congr_left
      intro p hp
      simp only [Function.comp]
      congr 3
      omega
    rw [← eidx] at hres
    refine wpAny_pure ⟨_, fset Z' s.heap.objs.size (tupO [.int i s.toks, x] 0), two e _ it oi', rfl, le2, W2, ?_, two_in hit' hoi'', two_off ⟨by rw [fset_ne (Ne.symm hnew)]; exact oe.1, oe.2⟩ ⟨by rw [fset_ne (Ne.symm hnew2)]; exact oit.1, oit.2⟩, hres⟩
    exact .tup fset_self (by simp [sizeLine_eq]) (.cons (.int _ _) (.cons (ix.mono ((hz.trans le).trans le2)) .nil))
theorem srcE_enum {func arg : Expr} {cpos : Pos} {elts : List Expr} {tk : Nat} {tp : Pos} {ds : List D} (hf : Ev prog w s₀ n env σ (eval func env) (.ty "enumerate")) (ha : Ev prog w s₀ n env σ (eval arg env) (.lst ds))
    (hev : eval (.Call func [arg] [] cpos) env = (do callWith cpos (← eval func env) [] (backTo cpos (starEach [arg] env)) (backToKw cpos (keywordEach [] env))) := by rfl)
    (hpl : (starEach [arg] env).any (·.1) = false := by rfl)
    (he : backTo cpos (starEach [arg] env) = (false, eval arg env) :: backTo cpos (starEach [] env) := by rfl) :
    SrcE prog w s₀ n env σ (.Tuple elts tk tp) (.Call func [arg] [] cpos) (ds.zipIdx.map fun p => .tup [.int (p.2 : Int), p.1]) := by
  intro A Z R s ok W S
  rw [hev]
  refine wpAny_bind (wpAny_mono (hf A Z R s ok W S) ?_ fun _ _ x => x)
  rintro fv s1 ⟨Z1, l1, W1, i1⟩
  obtain rfl := i1.ty_inv
  show wpAny _ A (callWith cpos (.type "enumerate") [] (backTo cpos (starEach [arg] env)) []) _ _ s1
  refine callWith_type (trees_plain hpl) (evl_args (trees_plain hpl) (evl_cons ha evl_nil he) ok W1 (S.mono l1 (.refl _)) fun vs s2 Z2 l2 W2 i2 => ?_)
  cases i2 with
  | cons i2 ir =>
    cases ir
    obtain ⟨_, _, _, rfl, e, hz, hall⟩ := i2.lst_inv
    ·
      rename_i l vs m
      refine call_enumerate_list ⟨_, W2.frz _ _ e, rfl, _, rfl⟩ fun h' hen hit hsz hk => ?_
      obtain ⟨oi, hoi, hc, hdat⟩ := hit
      refine wpAny_pyIter_enum hen ?_
      have f1 := W2.none_of_ge (a := s2.heap.objs.size) (Nat.le_refl _)
      have f2 := W2.none_of_ge (a := s2.heap.objs.size + 1) (Nat.le_succ _)
      have hne : s2.heap.objs.size + 1 ≠ s2.heap.objs.size := Nat.succ_ne_self _
      have hS := stp_enum (prog := prog) (w := w) (s₀ := s₀) (n := n) (elts := elts) (tk := tk) (tp := tp) e hall hne (rest := ds) (i := 0) (old := .none) (oi := oi) (Z1 := Z2) rfl (Nat.zero_le _) (.refl _) hc hdat
      have e0 : (ds.zipIdx.map fun p => D.tup [.int ((0 + p.2 : Nat) : Int), p.1]) = ds.zipIdx.map fun p => D.tup [.int (p.2 : Int), p.1] := by
        apply List.map_congr_left
        intro p hp
        rw [Nat.zero_add]
      rw [e0] at hS
      exact ⟨Z2, _, l1.trans l2, W2.grow hk, two_in hen hoi, two_off f2 f1, hS⟩

/-! issubclass(str, (str, bytes)) -/
theorem kind_isub_nested : builtinKind "issubclass.nested" = none := by decide +kernel
theorem plain_isub_nested : plainId "issubclass.nested" = true := by decide +kernel
theorem args_isub_nested (a b c : Value) : argsOk "issubclass.nested" ⟨[a, b, c], []⟩ := by unfold argsOk; kernel_rfl
theorem isub_inner (dep : Int) (tk : Tok) : Meets (Builtin.«issubclass.nested» ⟨[.type "str", .type "str", .int dep tk], []⟩) (fun _ R s => R (.ok (.ret (.bool true))) s) := by
  intro prog w A R s h
  have f1 := PySem.F.sub_str_str
  have f2 := PySem.F.isi_meta_str
  wp_walk
  exact h
theorem isub_outer {s : Shared} {A : Around} {tp : Addr} {m : Nat} {cs : List Value} {Q : Fin → Shared → Prop} {E : Value → Shared → Prop} (h : s.heap.get? tp = some (tupO cs m)) (hcs : cs = [.type "str", .type "bytes"]) (q : Q (.done (.ret (.bool true))) s) (tk : Tok) :
    wpAny (model prog w) A (Builtin.«issubclass.nested» ⟨[.type "str", .ref tp, .int 0 tk], []⟩) Q E s := by
  obtain ⟨hp, g, d, t, os⟩ := s
  have hT2 : (⟨hp, g, d, t, os⟩ : Shared).TypeIs (.ref tp) "tuple" := ⟨_, h, rfl⟩
  have f1 := PySem.F.isi_sub_tuple
  repeat (any_goals (first | assumption | wp_step))
  refine wpAny_arrayLoop ?_
  simp only [Option.getD_some, List.toList_toArray]
  subst hcs
  rw [List.forIn_cons]
  refine wpAny_bind (wpAny_bind (call_function_meets kind_isub_nested plain_isub_nested PySem.F.entry_issubclass_nested (args_isub_nested _ _ _) (isub_inner _ _) ?_))
  show wpAny _ _ (truthy (.bool true) >>= _) _ _ _
  refine wpAny_bind (m := truthy (.bool true)) (wpAny_pure ?_)
  exact wpAny_bind (wpAny_pure (wpAny_pure (wpAny_pure (wpAny_pure q))))
theorem ct_issub : CallT prog w s₀ n (.builtin "issubclass") [.ty "str", .tup [.ty "str", .ty "bytes"]] (.bool true) := by
  intro A Z R s vs ok W i
  obtain ⟨_, _, rfl, i1, i2⟩ := i.two_inv
  ·
      obtain rfl := i1.ty_inv
      obtain ⟨_, _, _, rfl, e, hz, ha⟩ := i2.tup_inv
      ·
        cases ha with
        | cons a1 ar => cases ar with
          | cons a2 ar =>
            cases ar; cases a1; cases a2
            refine call_issubclass (S := fun _ R s' => s' = s ∧ R (.ok (.ret (.bool true))) s) ?_ ⟨rfl, Post.here W (.bool _)⟩
            rintro prog' w' A' R' s' ⟨rfl, hR⟩
            refine issubclass_outer (isub_outer (W.frz _ _ e) rfl ?_ _)
            exact hR
end Mine
namespace Mine
open PySem PySem.Calls PySem.W PyProof.Rows
variable {prog : Program} {w : World} {s₀ : Shared} {n : Nat} {env : Env} {σ : Sto}

/-! the set of True alone -/
theorem typeIs_bool' (s : Shared) (b : Bool) : s.TypeIs (.bool b) "bool" := rfl
theorem pyHash_true {A : Around} {E : Value → Shared → Prop} {s : Shared} {Q : Int → Shared → Prop} (h : Q 1 { s with toks := s.toks + 1 }) : wpAny (model prog w) A (pyHash (.bool true)) Q E s := by
  unfold pyHash
  have hv : [Value.bool true].any Value.onHeap = false := rfl
  refine wpAny_bind ?_
  rw [cRoomFor, if_neg (by rw [hv]; exact Bool.false_ne_true)]; refine wpAny_pure ?_
  have hT := typeIs_bool' s true
  refine wpAny_bind (wpAny_specialOf hT PySem.F.slot_bool_hash.lookup ?_)
  show wpAny _ _ (if (some (Value.builtin "int.__hash__") == some Value.none) = true then _ else _) Q E s
  rw [if_neg (by rw [beq_builtin_none]; exact Bool.false_ne_true)]
  refine wpAny_bind (wpAny_specialOf hT PySem.F.slot_bool_hash.lookup ?_)
  show wpAny _ _ (callSpecialIfBoundUnlessNone? (.bool true) "__hash__" _ >>= _) Q E s
  refine wpAny_bind (wpAny_callSpecialIfBoundUnlessNone?_slot hT PySem.F.slot_bool_hash
    (wpAny_call_entry PySem.F.slot_bool_hash hT entry_int_hash ?_ (args_int_hash _)))
  show wpAny _ _ (do ret (← mkInt 1)) _ _ s
  refine wpAny_ret_mkInt ?_
  show wpAny _ _ (if (decide (-(2 : Int) ^ 63 ≤ 1) && decide ((1 : Int) < 2 ^ 63)) = true then _ else _) Q E _
  rw [if_pos (by decide)]
  exact wpAny_pure h
abbrev setO (es : Array (Int × Value)) (ep : Nat) (t : SetTable) : Obj := { cls := .type "set", dict := none, data := .set es ep t, slots := #[] }
def tab1 (led : Bool) : SetTable := { mask := 7, place := #[1], dummies := #[], finger := 0, led := led, moves := 0, plain := true }
theorem lay1 (led : Bool) : layNew (.fresh 0 0 led) #[] 1 (.bool true) = (#[(1, .bool true)], tab1 led, false, false) := by cases led <;> rfl
theorem tab1_full (led : Bool) : (tab1 led).tooFull = false := by cases led <;> rfl
theorem tab1_fits (led : Bool) : (tab1 led).fits 1 = true := by cases led <;> rfl
theorem add_entry {A : Around} {E : Value → Shared → Prop} {s : Shared} {a : Addr} {es : Array (Int × Value)} {ep : Nat} {t : SetTable} {Q : Value → Shared → Prop} (ho : s.heap.get? a = some (setO es ep t)) (hf : t.fits es.size = true)
    (hs : byScan (.bool true) es = true)
    (h : wpAny (model prog w) A.in1 (setAddByScan a (.bool true) 1 es t) (fun r s' => ∃ b, r = some b ∧ Q .none s') E { s with toks := s.toks + 1 }) : wpAny (model prog w) A (call (.builtin "set.add") [.ref a, .bool true]) Q E s := by
  have hT : s.TypeIs (.ref a) "set" := ⟨_, ho, rfl⟩
  refine wpAny_call_entry PySem.F.slot_set_add hT PySem.F.entry_set_add ?_ (PySem.F.args_set_add_2 _ _)
  unfold Builtin.«set.add» Builtin.Frozenset.oneOther
  simp only [List.isEmpty_nil, bind_assoc]
  unfold Builtin.Frozenset.addrOf setAdd
  refine wpAny_bind (wpAny_pure ?_)
  try dsimp only
  refine wpAny_bind (wpAny_pure ?_)
  try dsimp only
  refine wpAny_bind ?_
  refine wpAny_holding ?_
  refine wpAny_bind (pyHash_true ?_)
  unfold setAddHashed setAddHashedIn
  refine wpAny_holding (wpAny_bind (wpAny_setState_of (s := { s with toks := s.toks + 1 }) ho rfl hf ?_))
  dsimp only
  rw [hs]
  simp only [↓reduceIte]
  refine wpAny_bind (wpAny_mono h ?_ fun _ _ x => x)
  rintro r s' ⟨b, rfl, q⟩
  refine wpAny_pure ?_
  show wpAny _ _ (ret Value.none) _ _ _
  exact wpAny_pure ⟨_, rfl, q⟩
theorem add_first {A : Around} {s : Shared} {a : Addr} {led : Bool} (ho : s.heap.get? a = some (setO #[] 0 (.fresh 0 0 led))) :
    wpAny (model prog w) A (call (.builtin "set.add") [.ref a, .bool true]) (fun _ s' => ∃ h' ep, s' = { s with heap := h', toks := s.toks + 1 } ∧ Heap.SameBut a s.heap h' ∧ h'.get? a = some (setO #[(1, .bool true)] ep (tab1 led))) nope s := by
  refine add_entry ho (by cases led <;> rfl) (by simp [byScan, scanBound, Value.scannable]) ?_
  unfold setAddByScan
  refine wpAny_bind (wpAny_rule (wpAny_bind (m := setScan a (.bool true) 1 true #[]) ?_))
  show wpAny _ _ (pure ScanMet.absent) _ _ _
  refine wpAny_pure ?_
  dsimp only
  rw [lay1]
  dsimp only
  refine wpAny_bind (m := pure ()) (wpAny_pure ?_)
  refine wpAny_bind (m := hashByValue 8 (.bool true)) (wpAny_pure ?_)
  simp only [↓reduceIte]
  refine wpAny_bind (wpAny_storeSet_of (s := { s with toks := s.toks + 1 }) ho rfl ?_ (by show 1 ≤ sizeLine; decide))
  rw [tab1_full]
  simp only [Bool.and_false, Bool.false_eq_true, if_false]
  refine wpAny_pure ⟨true, rfl, s.heap.update a (Obj.putSet #[(1, .bool true)] (tab1 led)), 1, rfl, Heap.SameBut.update .., ?_⟩
  exact Heap.get?_update_self _ ho rfl
theorem add_again {A : Around} {s : Shared} {a : Addr} {led : Bool} {ep : Nat} (ho : s.heap.get? a = some (setO #[(1, .bool true)] ep (tab1 led))) :
    wpAny (model prog w) A (call (.builtin "set.add") [.ref a, .bool true]) (fun _ s' => s' = { s with toks := s.toks + 1 }) nope s := by
  refine add_entry ho (tab1_fits led) (by simp [byScan, scanBound, Value.scannable]) ?_
  unfold setAddByScan
  refine wpAny_bind (wpAny_rule (wpAny_bind (m := setScan a (.bool true) 1 true #[(1, .bool true)]) ?_))
  show wpAny _ _ (setScanFrom a (.bool true) 1 true [(1, .bool true)] 0) _ _ _
  unfold setScanFrom
  simp only [beq_self_eq_true, if_true]
  refine wpAny_bind (wpAny_setEpoch_of (s := { s with toks := s.toks + 1 }) ho rfl (tab1_fits led) ?_)
  refine wpAny_bind (SeqAt.EqAt.same (.bool true) prog w _ _ ?_)
  simp only [Bool.and_self, if_true]
  refine wpAny_pure ?_
  dsimp only
  exact wpAny_pure ⟨false, rfl, rfl⟩
theorem slot_setit_next : Slot "set_iterator" "__next__" "set_iterator.__next__" :=
  .of (owner := "set_iterator") (n := "__next__") (by rw [typeLookup_type, builtinLookup_eq_fast]; kernel_rfl) (by decide +kernel) (by decide +kernel) (by decide +kernel)
    (by first | exact .inl (by decide +kernel) | exact .inr (by decide +kernel)) (by rw [isSubtype_type]; kernel_rfl)
theorem entry_setit_next : entryFor table "set_iterator.__next__" = some Builtin.«set_iterator.__next__» := entryFor_of_tree (by kernel_rfl)
theorem args_setit_next (a : Value) : argsOk "set_iterator.__next__" ⟨[a], []⟩ := by unfold argsOk; kernel_rfl
theorem entry_set_iter' : entryFor table "set.__iter__" = some Builtin.«frozenset.__iter__» :=
  entryFor_alias (id' := "frozenset.__iter__") (by kernel_rfl) rfl (by decide +kernel) (by kernel_rfl)
abbrev sitO (slot i : Nat) (a : Addr) (ep : Nat) : Obj := { cls := .type "set_iterator", dict := none, data := .fields #[rawInt slot, rawInt i, .ref a, rawInt 1, rawInt ep], slots := #[] }
/-- one way or the other the table was made -/
def ledOf (w : World) : Bool := !w.params.followText "set-order"
theorem byText {A : Around} {E : Value → Shared → Prop} {s : Shared} {Q : Bool → Shared → Prop} (h : Q (w.params.followText "set-order") s) : wpAny (model prog w) A setsByText Q E s := by
  unfold setsByText
  exact wpAny_bind (wpAny_askSetting (wpAny_pure h))
theorem set_iter {A : Around} {E : Value → Shared → Prop} {s : Shared} {a : Addr} {ep : Nat} {led : Bool} {Q : Value → Shared → Prop} (ho : s.heap.get? a = some (setO #[(1, .bool true)] ep (tab1 led)))
    (h : Q (.ref s.heap.objs.size) { s with heap := s.heap.push (sitO 0 0 a ep) }) : wpAny (model prog w) A (pyIter (.ref a)) Q E s := by
  have hT : s.TypeIs (.ref a) "set" := ⟨_, ho, rfl⟩
  refine wpAny_pyIter_slot hT PySem.F.slot_set_iter (wpAny_call_entry PySem.F.slot_set_iter hT entry_set_iter' ?_ (PySem.F.args_set_iter_1 _))
  unfold Builtin.«frozenset.__iter__» Builtin.Frozenset.slot0
  refine wpAny_bind (wpAny_pure ?_)
  unfold Builtin.Frozenset.sizeOf
  refine wpAny_bind (wpAny_bind (wpAny_setEntries_of ho rfl (tab1_fits led) (wpAny_pure ?_)))
  unfold setDrawn
  refine wpAny_bind (wpAny_bind (wpAny_setState_of ho rfl (tab1_fits led) (wpAny_bind (byText (wpAny_pure ?_)))))
  refine wpAny_ite_split (fun hab => ?_) (fun _ => ?_)
  · have h2 := (Bool.and_eq_true_iff.mp hab).2
    exact absurd (show false = true from h2) (by decide)
  refine wpAny_bind (wpAny_pure ?_)
  dsimp only
  refine wpAny_bind (wpAny_setEpoch_of ho rfl (tab1_fits led) ?_)
  refine wpAny_bind ?_
  show wpAny _ _ (newFields "set_iterator" [rawInt 0, rawInt 0, .ref a, rawInt 1, rawInt ep]) _ _ _
  refine wpAny_newObj_type (wpAny_pure ⟨_, rfl, "set_iterator", _, ⟨_, Heap.get?_push_size _ rfl, rfl⟩, slot_setit_next.lookup, h⟩)
theorem pick_one (f : Nat → Nat) (e : Int × Value) : pickOrder f #[e] = #[e] := by
  simp [pickOrder, pickOrder.go, Nat.mod_one]
theorem walk_one {A : Around} {E : Value → Shared → Prop} {s : Shared} {a : Addr} {ep : Nat} {Q : Array (Int × Value) → Shared → Prop} (ho : s.heap.get? a = some (setO #[(1, .bool true)] ep (tab1 (ledOf w)))) (hb : w.params.followText "set-order" = true)
    (h : Q #[(1, .bool true)] s) : wpAny (model prog w) A (setWalk a) Q E s := by
  unfold setWalk
  refine wpAny_bind (wpAny_setState_of ho rfl (tab1_fits _) (wpAny_bind (byText ?_)))
  rw [hb]
  simp only [if_true]
  refine wpAny_bind (wpAny_askSetting (wpAny_pure ?_))
  rw [pick_one]
  exact h
theorem set_nextV {A : Around} {E : Value → Shared → Prop} {s : Shared} {a : Addr} {ep slot i : Nat} {Q : Option (Value × Nat) → Shared → Prop} (ho : s.heap.get? a = some (setO #[(1, .bool true)] ep (tab1 (ledOf w))))
    (hi : (i = 0 ∧ slot = 0) ∨ (i = 1 ∧ (w.params.followText "set-order" = false → slot = 2)))
    (h : ∀ nx, (w.params.followText "set-order" = false → nx = 2) → Q (if i = 0 then some (.bool true, nx) else none) s) : wpAny (model prog w) A (setNext a slot i ep) Q E s := by
  unfold setNext
  refine wpAny_bind (wpAny_setState_of ho rfl (tab1_fits _) (wpAny_bind (byText ?_)))
  cases hb : w.params.followText "set-order" with
  | true =>
    simp only [if_true, bne_self_eq_false, Bool.false_eq_true, if_false]
    refine wpAny_bind (walk_one ho hb (wpAny_pure ?_))
    rcases hi with ⟨rfl, rfl⟩ | ⟨rfl, _⟩
    · exact h 0 (fun e => by rw [hb] at e; cases e)
    · exact h 0 (fun e => by rw [hb] at e; cases e)
  | false =>
    simp only [Bool.false_eq_true, if_false]
    refine wpAny_ite_split (fun hab => ?_) (fun _ => ?_)
    · exact absurd (show false = true from hab) (by decide)
    · have hl : ledOf w = true := by unfold ledOf; rw [hb]; rfl
      refine wpAny_bind ?_
      show wpAny _ _ (if (!(ledOf w) && !(#[((1 : Int), Value.bool true)] : Array (Int × Value)).isEmpty) = true then unsupported "set:maker-not-led" else pure ()) _ _ _
      rw [hl]
      refine wpAny_pure ?_
      rcases hi with ⟨rfl, rfl⟩ | ⟨rfl, hs⟩
      · exact wpAny_pure (h 2 fun _ => rfl)
      · rw [hs hb]
        exact wpAny_pure (h 2 fun _ => rfl)
theorem set_next1 {A : Around} {E : Value → Shared → Prop} {s : Shared} {a it : Addr} {ep : Nat} {Q : Option Value → Shared → Prop} (ho : s.heap.get? a = some (setO #[(1, .bool true)] ep (tab1 (ledOf w)))) (hit : s.heap.get? it = some (sitO 0 0 a ep)) (hne : a ≠ it)
    (h : ∀ h' slot, h'.get? it = some (sitO slot 1 a ep) → (w.params.followText "set-order" = false → slot = 2) → Heap.SameBut it s.heap h' → Q (some (.bool true)) { s with heap := h' }) : wpAny (model prog w) A (pyNext (.ref it)) Q E s := by
  have hT : s.TypeIs (.ref it) "set_iterator" := ⟨_, hit, rfl⟩
  unfold pyNext
  refine wpAny_bind (wpAny_attempt (wpAny_callSpecial?_slot (name := Str.ofString "__next__") hT slot_setit_next (wpAny_call_entry slot_setit_next hT entry_setit_next ?_ (args_setit_next _))))
  show wpAny _ _ (fieldsOf (.ref it) >>= _) _ _ s
  refine wpAny_bind (wpAny_fieldsOf hit rfl ?_)
  dsimp only
  show wpAny _ _ (setEntries a >>= _) _ _ s
  refine wpAny_bind (wpAny_setEntries_of ho rfl (tab1_fits _) ?_)
  rw [if_neg (show ¬ ((((#[((1 : Int), Value.bool true)] : Array (Int × Value)).size : Int) != 1) = true) by decide)]
  show wpAny _ _ (setNext a 0 0 ep >>= _) _ _ s
  refine wpAny_bind (set_nextV ho (.inl ⟨rfl, rfl⟩) fun nx hnx => ?_)
  simp only [if_true]
  refine wpAny_bind (wpAny_setField_rec hit (by simp) fun h₁ he₁ hs₁ => ?_)
  replace he₁ : h₁.get? it = some (sitO nx 0 a ep) := he₁
  refine wpAny_bind (wpAny_setField_rec he₁ (by simp) fun h₂ he₂ hs₂ => ?_)
  replace he₂ : h₂.get? it = some (sitO nx 1 a ep) := he₂
  exact wpAny_pure ⟨_, rfl, wpAny_pure (h h₂ nx he₂ hnx (hs₁.trans hs₂))⟩
theorem set_next2 {A : Around} {E : Value → Shared → Prop} {s : Shared} {a it : Addr} {ep slot : Nat} {Q : Option Value → Shared → Prop} (hh : A.handled = none) (ho : s.heap.get? a = some (setO #[(1, .bool true)] ep (tab1 (ledOf w)))) (hit : s.heap.get? it = some (sitO slot 1 a ep))
    (hsl : w.params.followText "set-order" = false → slot = 2) (h : ∀ h', Heap.ExtBut it s.heap h' → Q none { s with heap := h' }) : wpAny (model prog w) A (pyNext (.ref it)) Q E s := by
  have hT : s.TypeIs (.ref it) "set_iterator" := ⟨_, hit, rfl⟩
  unfold pyNext
  refine wpAny_bind (wpAny_attempt (wpAny_callSpecial?_slot (name := Str.ofString "__next__") hT slot_setit_next (wpAny_call_entry slot_setit_next hT entry_setit_next ?_ (args_setit_next _))))
  show wpAny _ _ (fieldsOf (.ref it) >>= _) _ _ s
  refine wpAny_bind (wpAny_fieldsOf hit rfl ?_)
  dsimp only
  show wpAny _ _ (setEntries a >>= _) _ _ s
  refine wpAny_bind (wpAny_setEntries_of ho rfl (tab1_fits _) ?_)
  rw [if_neg (show ¬ ((((#[((1 : Int), Value.bool true)] : Array (Int × Value)).size : Int) != 1) = true) by decide)]
  show wpAny _ _ (setNext a (slot : Int).toNat 1 ep >>= _) _ _ s
  refine wpAny_bind (set_nextV ho (.inr ⟨rfl, fun e => by rw [hsl e]; rfl⟩) fun nx hnx => ?_)
  simp only [show ¬ ((1 : Nat) = 0) by decide, if_false]
  show wpAny _ _ (setField (.ref it) 2 .none >>= _) _ _ s
  refine wpAny_bind (wpAny_setField hit rfl (by simp) ?_)
  show wpAny _ _ (newExc (.type "StopIteration") [] >>= _) _ _ _
  refine wpAny_bind ?_
  simp only [newExc, newTuple]
  refine wpAny_bind (wpAny_newObj_type ?_ (by size_fits))
  refine wpAny_bind (m := firstArgMember _ _) (wpAny_of_eq (a := Value.none) (by first | rfl | (simp only [firstArgMember]; rfl)) ?_)
  refine wpAny_newObj_type ?_ (by size_fits)
  simp only [raiseNew]
  refine wpAny_bind (wpAny_handled ?_)
  rw [show A.in1.handled = none from hh]
  refine wpAny_bind (wpAny_pure (wpAny_throw ?_))
  refine wpAny_bind (wpAny_isInstance (T := "StopIteration") (b := true) ⟨_, Heap.get?_push_size _ rfl, rfl⟩ isSubtype_stop ?_)
  exact wpAny_pure (h _ (((Heap.SameBut.update ..).extBut.push _).push _))
end Mine
namespace Mine
open PySem PySem.Calls PySem.W PyProof.Rows
variable {prog : Program} {w : World} {s₀ : Shared} {n : Nat} {env : Env} {σ : Sto}

theorem compTurn_set (elt target iter : Expr) (scope : Scope) (pos : Pos) (it acc : Value) (env : Env) :
    compTurn (.SetComp elt [⟨target, iter, [], 0⟩] scope pos) 0 it acc env = (do
      standAt iter.pos
      match ← pyNext it with
      | none => pure (.done .next)
      | some v =>
        letOwnedTupleGo target it v
        assign target env v
        (do let v ← eval elt env; standAt elt.pos; let _ ← call (.builtin "set.add") [acc, v])
        again (.compLoop (.SetComp elt [⟨target, iter, [], 0⟩] scope pos) 0 it acc env)) := by rfl
theorem codeAny_compStart_set {elt target iter : Expr} {scope : Scope} {pos : Pos} {it acc : Value} {env : Env} {A : Around} {s : Shared} {R : Result → Shared → Prop}
    (h0 : codeAny (model prog w) A (.compLoop (.SetComp elt [⟨target, iter, [], 0⟩] scope pos) 0 it acc env) R s)
    (h : wpAny (model prog w) A (pyIter it) (fun it' s' => codeAny (model prog w) A (.compLoop (.SetComp elt [⟨target, iter, [], 0⟩] scope pos) 0 it' acc env) R s') nope s) :
    codeAny (model prog w) A (.compStart (.SetComp elt [⟨target, iter, [], 0⟩] scope pos) 0 it acc env) R s := by
  refine codeAny_of_tree ?_
  show wpAny _ _ ((compStart (.SetComp elt [⟨target, iter, [], 0⟩] scope pos) 0 it acc env).onRaise (fun x => do noteFrame x env; standAt theWindowsPlace)) _ _ s
  refine wpAny_notedAt ?_
  unfold compStart
  show wpAny _ _ (ask >>= _) _ _ s
  refine wpAny_bind (wpAny_askSetting (wpAny_ite ?_))
  split
  · first
      | exact wpAny_bind (wpAny_pure (wpAny_pure (And.intro rfl h0)))
      | exact wpAny_pure (And.intro rfl h0)
  · refine noE ?_
    first
      | exact wpAny_bind (wpAny_rule (wpAny_bind (wpAny_standAt (wpAny_bind (wpAny_mono h (fun it' s' h' => wpAny_pure (And.intro rfl h')) fun _ _ x => x)))))
      | (refine wpAny_bind (wpAny_rule ?_); show wpAny _ _ (standAt iter.pos >>= _) _ _ s; exact wpAny_bind (wpAny_standAt (wpAny_bind (wpAny_mono h (fun it' s' h' => wpAny_pure (And.intro rfl h')) fun _ _ x => x))))

def SetSt (w : World) (full : Bool) (o : Obj) : Prop := match full with
  | false => o = setO #[] 0 (.fresh 0 0 (ledOf w))
  | true => ∃ ep, o = setO #[(1, .bool true)] ep (tab1 (ledOf w))
theorem SetSt.noseq {full : Bool} {o : Obj} (h : SetSt w full o) : (∀ m, ¬ NsObj o m) ∧ (∀ v, o.data ≠ .cell v) := by
  cases full with
  | false => cases h; exact ⟨fun m h => (by obtain ⟨es, ep, hd, _⟩ := h; cases hd), fun _ e => nomatch e⟩
  | true => obtain ⟨ep, rfl⟩ := h; exact ⟨fun m h => (by obtain ⟨es, ep, hd, _⟩ := h; cases hd), fun _ e => nomatch e⟩
theorem set_add {A : Around} {s : Shared} {a : Addr} {o : Obj} {full : Bool} (ho : s.heap.get? a = some o) (hs : SetSt w full o) :
    wpAny (model prog w) A (call (.builtin "set.add") [.ref a, .bool true]) (fun _ s' => ∃ h' tk o', s' = { s with heap := h', toks := tk } ∧ Heap.SameBut a s.heap h' ∧ h'.get? a = some o' ∧ SetSt w true o') nope s := by
  cases full with
  | false =>
    cases hs
    refine wpAny_mono (add_first ho) ?_ fun _ _ x => x
    rintro _ s' ⟨h', ep, rfl, h1, h2⟩
    exact ⟨h', _, _, rfl, h1, h2, ep, rfl⟩
  | true =>
    obtain ⟨ep, rfl⟩ := hs
    refine wpAny_mono (add_again ho) ?_ fun _ _ x => x
    rintro _ s' rfl
    exact ⟨s.heap, _, _, rfl, Heap.SameBut.refl _ _, ho, ep, rfl⟩

def SetEnd (w : World) (prog : Program) (s₀ : Shared) (cenv : Env) (x : Str) (Z R0 : Fz) (D0 : Addr) (full : Bool) (r : Result) (s' : Shared) : Prop :=
  r = .ok .next ∧ ∃ Z' R' o, FLe Z Z' ∧ FLe R0 R' ∧ Wd s₀ Z' R' s' ∧ CF cenv x R0 R' ∧ R' D0 = some o ∧ SetSt w full o
theorem exc_set {cenv : Env} {σf : Sto} {x : Str} {px : Pos} {elt iter : Expr} {scope : Scope} {pos : Pos} {it : Value} {D0 : Addr} {R0 : Fz} (O : EnvOk cenv) (h00 : R0 D0 = none) : ∀ {items : List D} {full : Bool},
    (∀ d ∈ items, Ev prog w s₀ n cenv ((x, .val d) :: σf) (eval elt cenv) (.bool true)) →
    ∀ A Z R I s o, Ok n A → Wd s₀ Z R s → CF cenv x R0 R → FLe R0 R → RdF (hsOf prog w) cenv Z R0 x σf → R D0 = some o → SetSt w full o → FIn I s.heap → IOff I Z R → Stp prog w s₀ n (.Name x px) it items Z I →
      codeAny (model prog w) A (.compLoop (.SetComp elt [⟨.Name x px, iter, [], 0⟩] scope pos) 0 it (.ref D0) cenv) (SetEnd w prog s₀ cenv x Z R0 D0 (full || !items.isEmpty)) s := by
  intro items
  induction items with
  | nil =>
    intro full hT A Z R I s o ok W F hl hR hD hst hI ho hS
    refine codeAny_of_tree ?_
    show wpAny _ A ((compTurn (.SetComp elt [⟨.Name x px, iter, [], 0⟩] scope pos) 0 it (.ref D0) cenv).onRaise (fun x => do noteFrame x cenv; theTreesLotGoes x)) _ _ s
    refine wpAny_noted (noE ?_)
    rw [compTurn_set]
    refine wpAny_bind (wpAny_standAt ?_)
    have h1 : wpAny (model prog w) A (nextGo (.Name x px) it) (fun r s' => r = none ∧ Wd s₀ Z R s') nope s := hS A Z _ s ok (.refl Z) W hI ho
    refine bind_nextGo (Q := fun _ _ => True) (wpAny_mono h1 ?_ fun _ _ x => x)
    rintro r s1 ⟨rfl, W1⟩
    exact wpAny_pure ⟨rfl, Z, R, o, .refl Z, hl, W1, F, hD, by simpa using hst⟩
  | cons d ds ih =>
    intro full hT A Z R I s o ok W F hl hR hD hst hI ho hS
    refine codeAny_of_tree ?_
    show wpAny _ A ((compTurn (.SetComp elt [⟨.Name x px, iter, [], 0⟩] scope pos) 0 it (.ref D0) cenv).onRaise (fun x => do noteFrame x cenv; theTreesLotGoes x)) _ _ s
    refine wpAny_noted (noE ?_)
    rw [compTurn_set]
    refine wpAny_bind (wpAny_standAt ?_)
    have h1 : wpAny (model prog w) A (nextGo (.Name x px) it) (fun r s' => ∃ v Z'' I', r = some v ∧ FLe Z Z'' ∧ Wd s₀ Z'' R s' ∧ Is (hsOf prog w) Z'' v d ∧ FIn I' s'.heap ∧ IOff I' Z'' R ∧ Stp prog w s₀ n (.Name x px) it ds Z'' I') nope s := hS A Z _ s ok (.refl Z) W hI ho
    refine bind_nextGo (Q := fun _ _ => True) (wpAny_mono h1 ?_ fun _ _ x => x)
    rintro r s1 ⟨v, Z1, I1, rfl, l1, W1, i1, hI1, ho1, hS1⟩
    dsimp only
    refine wpAny_bind (wpAny_assign_Name (wpAny_mono (cf_store O W1 F (x := x) (v := v)) ?_ fun _ _ x => x))
    rintro _ s2 ⟨a, oa, oa', ha, hseq, ha0, W2, F2, hx2, hsame⟩
    have hIa := ioff_none ho1 ha
    have hI2 := fin_same hI1 hsame hIa
    have ho2 := ioff_fset (o := oa') ho1 hIa
    have hDa : D0 ≠ a := fun q => by
      subst q; rw [hD] at ha; cases ha
      rcases hseq with ⟨m, hm⟩ | ⟨u, hd⟩
      · exact hst.noseq.1 m hm
      · exact hst.noseq.2 u hd
    have hl2 : FLe R0 (fset R a oa') := fle_fset_of hl ha0
    have hD2 : fset R a oa' D0 = some o := by rw [fset_ne hDa]; exact hD
    have W2' := W2.joinI hI2 ho2
    have hIR : ∀ b o, I1 b = some o → fset R a oa' b = none := fun b o e => (ho2 b o e).2
    have hR1 := hR.mono l1
    have S2 : Rd (hsOf prog w) cenv Z1 (forr I1 (fset R a oa')) ((x, .val d) :: σf) := hR1.rd (hl2.trans (fle_forr_r hIR)) (hx2.mono (fle_forr_r hIR)) i1
    refine wpAny_bind ?_
    refine wpAny_bind (wpAny_mono (hT d List.mem_cons_self A Z1 _ s2 ok W2' S2) ?_ fun _ _ x => x)
    rintro u s4 ⟨Z4, l4, W4, i4⟩
    cases i4
    obtain ⟨W4, hI4, ho4⟩ := W4.splitI hIR
    have hg := W4.rest _ _ hD2
    refine wpAny_bind (wpAny_standAt (wpAny_bind (wpAny_mono (set_add hg hst) ?_ fun _ _ x => x)))
    rintro _ s5 ⟨h', tk, o', rfl, hsb, hnew, hst'⟩
    have W5 := W4.setR (tk := tk) hD2 hsb hnew
    have hID := ioff_none ho4 hD2
    obtain ⟨oL, mL, hoL, hmL⟩ := F2.fr
    have hCD : cenv.locals ≠ D0 := fun q => by
      rw [q, hD2] at hoL; cases hoL
      exact hst.noseq.1 _ hmL
    have F5 : CF cenv x R0 (fset (fset R a oa') D0 o') := by
      refine ⟨⟨oL, mL, by rw [fset_ne hCD]; exact hoL, hmL⟩, F2.fr0, ?_⟩
      rcases F2.nm with q | ⟨q, c, oc, uc, c1, c2, c3, c4, c5⟩
      · exact .inl q
      · refine .inr ⟨q, c, oc, uc, c1, ?_, c3, c4, c5⟩
        have : c ≠ D0 := fun q' => by
          rw [q', hD2] at c2; cases c2
          exact hst.noseq.2 _ c3
        rw [fset_ne this]; exact c2
    refine wpAny_pure (wpAny_pure (And.intro rfl (codeAny_mono (ih (full := true) (fun e he => hT e (List.mem_cons_of_mem _ he)) A Z4 _ I1 _ o' ok W5 F5 (fle_fset_of hl2 h00) (hR1.mono l4) fset_self hst'
      (fin_same hI4 hsb hID) (ioff_fset ho4 hID) (hS1.mono l4)) ?_)))
    rintro q s6 ⟨e1, Z6, R6, o6, l6, r1, r2, r3, r4, r5⟩
    exact ⟨e1, Z6, R6, o6, (l1.trans l4).trans l6, r1, r2, r3, r4, by simpa using r5⟩

theorem set_new {A : Around} {E : Value → Shared → Prop} {s : Shared} {Q : Value → Shared → Prop} (h : Q (.ref s.heap.objs.size) { s with heap := s.heap.push (setO #[] 0 (.fresh 0 0 (ledOf w))) }) : wpAny (model prog w) A (newSet (.type "set")) Q E s := by
  unfold newSet
  refine wpAny_bind (byText ?_)
  dsimp only
  simp only [newObj]
  exact wpAny_bind (wpAny_alloc (wpAny_pure h))

theorem setcomp_core {elt iter : Expr} {x : Str} {px : Pos} {scope : Scope} {pos p : Pos} {src : D} {items : List D} {σf : Sto} {A : Around} {Z R : Fz} {s : Shared}
    (O : EnvOk env) (hi : Ev prog w s₀ n env σ (eval iter env) src) (hs : Src prog w s₀ n (.Name x px) src items) (hne : items ≠ [])
    (hv : SubV σf σ) (hT : ∀ cl C, ∀ d ∈ items, Ev prog w s₀ n (compEnvC scope cl C env) ((x, .val d) :: σf) (eval elt (compEnvC scope cl C env)) (.bool true))
    (hk : compOk scope env x (σf.map (·.1)) = true) (hfs : ∀ x, foldedSetIterable iter env x = pure x) (ok : Ok n A) (W : Wd s₀ Z R s) (S : Rd (hsOf prog w) env Z R σ) :
    wpAny (model prog w) A (comprehension (.SetComp elt [⟨.Name x px, iter, [], 0⟩] scope pos) scope env p (newSet (.type "set")) false (eval iter env))
      (fun v s' => ∃ Z' D0 ep, v = .ref D0 ∧ FLe Z Z' ∧ Wd s₀ Z' R s' ∧ s'.heap.get? D0 = some (setO #[(1, .bool true)] ep (tab1 (ledOf w)))) nope s := by
  obtain ⟨hkind, hnames⟩ := comp_kinds hk
  refine wpAny_comprehension_free (use := none) rfl hfs (comp_clos hk S hv) hkind hnames ?_
  refine wpAny_mono (hi A Z _ s ok W S) ?_ fun _ _ x => x
  rintro v s1 ⟨Z1, l1, W1, i1⟩
  refine wpAny_mono (hs A Z1 _ s1 v ok W1 i1) ?_ fun _ _ x => x
  rintro it s2 ⟨Z2, I, l2, W2, hI, ho, hself, hS⟩
  refine set_new ?_
  refine comp_enter (o := setO #[] 0 (.fresh 0 0 (ledOf w))) hk (S.mono (l1.trans l2) (.refl _)) hv W2 rfl rfl ?_
  intro cl C s4 R4 W4 hle F4 hD4 keep hlow hRd
  have O' : EnvOk (compEnvC scope cl C env) := ⟨hkind, O.glob, O.blt⟩
  have hD0 : R s2.heap.objs.size = none := (W2.none_of_ge (Nat.le_refl _)).2
  have hI4 : FIn I s4.heap := fun a o e => keep a o (hI a o e)
  have ho4 : IOff I Z2 R4 := fun a o e => ⟨(ho a o e).1, by rw [hlow a (Heap.lt_size (hI a o e))]; exact (ho a o e).2⟩
  refine codeAny_compStart_set ?_ (hself A s4 _ _ hI4 ?_) <;>
  · refine codeAny_mono (exc_set O' hD0 (hT cl C) A Z2 R4 I s4 _ ok W4 F4 hle hRd hD4 (full := false) rfl hI4 ho4 hS) ?_
    rintro r s5 ⟨rfl, Z5, R5, o5, l5, hle5, W5, F5, hD5, hst⟩
    have hfull : (false || !items.isEmpty) = true := by cases items with
      | nil => exact (hne rfl).elim
      | cons => rfl
    rw [hfull] at hst
    obtain ⟨ep, rfl⟩ := hst
    obtain ⟨oC, mC, hC, hm⟩ := F5.fr
    have hCD : (compEnvC scope cl C env).locals ≠ s2.heap.objs.size := fun q => by
      rw [q, hD5] at hC; cases hC
      obtain ⟨es, ep, hd, _⟩ := hm
      cases hd
    refine ⟨mC, hm.ns (W5.rest _ _ hC), fun h' hs' => ?_⟩
    have W6 : Wd s₀ Z5 R s5 := W5.subR hle5
    exact ⟨Z5, _, ep, rfl, (l1.trans l2).trans l5, W6.but (tk := s5.toks) (· = C) (fun a e => e ▸ ⟨W5.off _ _ hC, F5.fr0⟩) fun b ob hb e => (hs'.2 b hb).trans e, (hs'.2 _ (Ne.symm hCD)).trans (W5.rest _ _ hD5)⟩

/-- x, = {.. for ..}, all of them True -/
theorem ex_setcomp {elt iter : Expr} {x y : Str} {px py tp : Pos} {tk : Nat} {scope : Scope} {pos spos : Pos} {src : D} {items : List D} (σf : Sto)
    (O : EnvOk env) (hi : Ev prog w s₀ n env σ (eval iter env) src) (hs : Src prog w s₀ n (.Name x px) src items) (hne : items ≠ [])
    (hv : SubV σf σ) (hT : ∀ cl C, ∀ d ∈ items, Ev prog w s₀ n (compEnvC scope cl C env) ((x, .val d) :: σf) (eval elt (compEnvC scope cl C env)) (.bool true))
    (hk : compOk scope env x (σf.map (·.1)) = true := by with_unfolding_all rfl)
    (hfs : ∀ x, foldedSetIterable iter env x = pure x := by intro _; rfl)
    (hy : env.kindOf y = some .local ∨ env.kindOf y = some .cell := by first | exact Or.inl rfl | exact Or.inr rfl)
    (he : (assignEach [.Tuple [.Name y py] tk tp] env).map (·.2) = [assign (.Tuple [.Name y py] tk tp) env] := by rfl)
    (hsw : swapsWithSole [.Tuple [.Name y py] tk tp] (.SetComp elt [⟨.Name x px, iter, [], 0⟩] scope pos) spos.line env = pure false := by rfl)
    (hw : swappedStores [.Tuple [.Name y py] tk tp] (.SetComp elt [⟨.Name x px, iter, [], 0⟩] scope pos) env = pure none := by rfl) :
    Ex prog w s₀ n env σ (exec (.Assign [.Tuple [.Name y py] tk tp] (.SetComp elt [⟨.Name x px, iter, [], 0⟩] scope pos) spos) env) (.next (sset σ y (.val (.bool true)))) := by
  intro A Z R Y s ok W P
  rw [exec_Assign]
  refine wpAny_bind (wpAny_standAt ?_)
  rw [hsw]
  refine wpAny_bind (wpAny_pure ?_)
  rw [if_neg (by decide)]
  refine wpAny_bind (wpAny_mono (setcomp_core O hi hs hne hv hT hk hfs ok W P.read) ?_ fun _ _ x => x)
  rintro v s1 ⟨Z1, D0, ep, rfl, l1, W1, hset⟩
  rw [hw, he]
  refine wpAny_bind (wpAny_pure ?_)
  show wpAny _ A (do assignAll (.ref D0) [assign (.Tuple [.Name y py] tk tp) env]; pure Flow.next) _ _ s1
  refine wpAny_bind ?_
  show wpAny _ A (do standAt tp; unpack (.ref D0) [(false, assign (.Name y py) env)]) _ _ s1
  refine wpAny_bind (wpAny_standAt ?_)
  unfold unpack
  refine wpAny_bind (wpAny_holding ?_)
  show wpAny _ A (unpackItems (.ref D0) 1 none) _ _ s1
  have hT : s1.TypeIs (.ref D0) "set" := ⟨_, hset, rfl⟩
  unfold unpackItems notIterableAtAll
  refine wpAny_bind (wpAny_bind (wpAny_specialOf hT PySem.F.slot_set_iter.lookup ?_))
  simp only [Option.isSome_some, if_true]
  refine wpAny_pure ?_
  simp only [Bool.false_eq_true, if_false]
  refine wpAny_bind (wpAny_holding (set_iter hset ?_))
  have hDlt : D0 < s1.heap.objs.size := Heap.lt_size hset
  have hDne : D0 ≠ s1.heap.objs.size := Nat.ne_of_lt hDlt
  have hfree := W1.none_of_ge (a := s1.heap.objs.size) (Nat.le_refl _)
  have hset2 : (s1.heap.push (sitO 0 0 D0 ep)).get? D0 = some (setO #[(1, .bool true)] ep (tab1 (ledOf w))) := Heap.get?_push_of_some _ hset
  have W2 : Wd s₀ Z1 (forr Y R) { s1 with heap := s1.heap.push (sitO 0 0 D0 ep) } := W1.grow (tk := s1.toks) fun b ob e => Heap.get?_push_of_some _ e
  refine wpAny_bind (wpAny_holding ?_)
  show wpAny _ A (do match ← pyNext (.ref s1.heap.objs.size) with | none => pure [] | some v => return v :: (← holding [v] (draw (.ref s1.heap.objs.size) 0))) _ _ _
  refine wpAny_bind (set_next1 (s := { s1 with heap := s1.heap.push (sitO 0 0 D0 ep) }) hset2 (Heap.get?_push_size _ rfl) hDne fun h' slot hit hsl hsb => ?_)
  dsimp only
  refine wpAny_bind (wpAny_holding ?_)
  show wpAny _ A (pure []) _ _ _
  refine wpAny_pure (wpAny_pure ?_)
  have W3 : Wd s₀ Z1 (forr Y R) { s1 with heap := h' } := W2.but (tk := s1.toks) (· = s1.heap.objs.size) (fun a e => e ▸ hfree) fun b ob hb e => (hsb.2 b hb).trans e
  rw [if_neg (by simp)]
  have hset3 : h'.get? D0 = some (setO #[(1, .bool true)] ep (tab1 (ledOf w))) := (hsb.2 _ hDne).trans hset2
  refine wpAny_bind (wpAny_holding (set_next2 (s := { s1 with heap := h' }) ok.handled hset3 hit hsl fun h'' he2 => ?_))
  simp only [Option.isSome_none, Bool.false_eq_true, if_false]
  refine wpAny_pure ?_
  have W4 : Wd s₀ Z1 (forr Y R) { s1 with heap := h'' } := W3.but (tk := s1.toks) (· = s1.heap.objs.size) (fun a e => e ▸ hfree) fun b ob hb e => he2 b ob hb e
  show wpAny _ A (assignInOrder [assign (.Name y py) env] [.bool true]) _ _ _
  show wpAny _ A (do holding [] (assign (.Name y py) env (.bool true)); assignInOrder [] []) _ _ _
  refine wpAny_bind (wpAny_holding (wpAny_mono (asg_name (n := n) O hy A Z1 R Y _ (.bool true) ok W4 (P.monoZ l1) (.bool true)) ?_ fun _ _ x => x))
  intro _ s5 p
  refine wpAny_pure (wpAny_pure ?_)
  exact StPost.ex (p.mono l1)
end Mine
namespace Mine
open PySem PySem.Calls PySem.W PyProof.Rows
variable {prog : Program} {w : World} {s₀ : Shared} {n : Nat} {env : Env} {σ : Sto}

/-! the order of lists of texts -/
def strLt (x y : Str) : Bool := decide (x.cps.toList < y.cps.toList)
def ltL : List Str → List Str → Bool
  | [], [] => false
  | [], _ :: _ => true
  | _ :: _, [] => false
  | x :: xs, y :: ys => if x = y then ltL xs ys else strLt x y
theorem strs_at (l : List (Str × Tok)) (i : Nat) : (strValues l).toArray[((i : Nat) : Int).toNat]? = (l[i]?).map fun p => Value.str p.1 p.2 := by
  simp [strValues]
theorem lt_loop (l b : Addr) (xs ys : List (Str × Tok)) (m m2 : Nat) (k : Nat) :
    ∀ i : Nat, xs.length - i = k → i ≤ xs.length → i ≤ ys.length → Meets (Builtin.«list.__eq__.loop» ⟨[.ref l, .ref b, rawInt i, rawInt 0], []⟩)
      (fun A R s => s.heap.get? l = some (lstO (strValues xs) m) ∧ s.heap.get? b = some (lstO (strValues ys) m2) ∧ R (.ok (.ret (.bool (ltL ((xs.drop i).map (·.1)) ((ys.drop i).map (·.1)))))) s) := by
  induction k with
  | zero =>
    intro i hk h1 h2 prog w A R s h
    obtain ⟨hp, g, d, tk, os⟩ := s; obtain ⟨hl, hb, h⟩ := h
    wp_walk using AutoSeq1.wpAny_loadPart' hl, AutoSeq1.wpAny_loadPart' hb
    rw [strs_at, strs_at]
    have e1 : xs[i]? = none := List.getElem?_eq_none (by omega)
    rw [e1]
    wp_walk using AutoSeq1.wpAny_loadPart' hl, AutoSeq1.wpAny_loadPart' hb
    have hsz : (decide ((strValues xs).toArray.size < (strValues ys).toArray.size)) = ltL ((xs.drop i).map (·.1)) ((ys.drop i).map (·.1)) := by
      have : xs.drop i = [] := List.drop_eq_nil_of_le (by omega)
      rw [this]
      cases hy : ys.drop i with
      | nil =>
        have := List.drop_eq_nil_iff.mp hy
        simp [strValues, ltL]; omega
      | cons y r =>
        have : i < ys.length := by
          rcases Nat.lt_or_ge i ys.length with q | q
          · exact q
          · rw [List.drop_eq_nil_of_le q] at hy; cases hy
        simp [strValues, ltL]; omega
    show R (.ok (.ret (.bool (decide ((strValues xs).toArray.size < (strValues ys).toArray.size))))) _
    rw [hsz]; exact h
  | succ k ih =>
    intro i hk h1 h2 prog w A R s h
    obtain ⟨hp, g, d, tk, os⟩ := s; obtain ⟨hl, hb, h⟩ := h
    wp_walk using AutoSeq1.wpAny_loadPart' hl, AutoSeq1.wpAny_loadPart' hb
    rw [strs_at, strs_at]
    have hlt : i < xs.length := by omega
    have e1 : xs[i]? = some xs[i] := List.getElem?_eq_getElem hlt
    rw [e1]
    have ed : xs.drop i = xs[i] :: xs.drop (i + 1) := List.drop_eq_getElem_cons hlt
    rcases Nat.lt_or_ge i ys.length with hly | hly
    · have e2 : ys[i]? = some ys[i] := List.getElem?_eq_getElem hly
      rw [e2]
      have ed2 : ys.drop i = ys[i] :: ys.drop (i + 1) := List.drop_eq_getElem_cons hly
      rw [ed, ed2] at h
      simp only [List.map_cons, ltL] at h
      simp only [Option.map_some]
      refine wpAny_bind (SeqRoads2.EqGives.str xs[i].1 ys[i].1 xs[i].2 ys[i].2 prog w _ _ _ _ ?_)
      rw [beq_cps]
      by_cases he : xs[i].1 = ys[i].1
      · rw [decide_eq_true he]
        rw [if_pos he] at h
        have hc : ((i : Int) + 1) = ((i + 1 : Nat) : Int) := by push_cast; rfl
        wp_walk
        rw [hc]
        exact ⟨plainId_quiet MeetsSeq3.plain_eq_loop _, codeAny_builtin MeetsSeq3.entry_eq_loop (by
          rw [Around.under_plainId MeetsSeq3.plain_eq_loop _]
          exact ih (i + 1) (by omega) hlt hly prog w A R _ ⟨hl, hb, h⟩)⟩
      · rw [decide_eq_false he]
        rw [if_neg he] at h
        wp_walk using AutoSeq1.wpAny_loadPart' hl, AutoSeq1.wpAny_loadPart' hb
        rw [strs_at, strs_at, e1, e2]
        simp only [Option.map_some]
        refine wpAny_bind (show wpAny _ _ (compareOp .Lt (.str xs[i].1 xs[i].2) (.str ys[i].1 ys[i].2)) _ _ _ from PySem.P.lt_str ?_)
        wp_walk
        exact h
    · have e2 : ys[i]? = none := List.getElem?_eq_none hly
      rw [e2]
      wp_walk using AutoSeq1.wpAny_loadPart' hl, AutoSeq1.wpAny_loadPart' hb
      have e3 : ys.drop i = [] := List.drop_eq_nil_of_le hly
      rw [ed, e3] at h
      have hsz : (decide ((strValues xs).toArray.size < (strValues ys).toArray.size)) = false := by
        simp [strValues]; omega
      show R (.ok (.ret (.bool (decide ((strValues xs).toArray.size < (strValues ys).toArray.size))))) _
      rw [hsz]; exact h
theorem gt_loop (l b : Addr) (xs ys : List (Str × Tok)) (m m2 : Nat) (k : Nat) :
    ∀ i : Nat, xs.length - i = k → i ≤ xs.length → i ≤ ys.length → Meets (Builtin.«list.__eq__.loop» ⟨[.ref l, .ref b, rawInt i, rawInt 4], []⟩)
      (fun A R s => s.heap.get? l = some (lstO (strValues xs) m) ∧ s.heap.get? b = some (lstO (strValues ys) m2) ∧ R (.ok (.ret (.bool (ltL ((ys.drop i).map (·.1)) ((xs.drop i).map (·.1)))))) s) := by
  induction k with
  | zero =>
    intro i hk h1 h2 prog w A R s h
    obtain ⟨hp, g, d, tk, os⟩ := s; obtain ⟨hl, hb, h⟩ := h
    wp_walk using AutoSeq1.wpAny_loadPart' hl, AutoSeq1.wpAny_loadPart' hb
    rw [strs_at, strs_at]
    have e1 : xs[i]? = none := List.getElem?_eq_none (by omega)
    rw [e1]
    wp_walk using AutoSeq1.wpAny_loadPart' hl, AutoSeq1.wpAny_loadPart' hb
    have hsz : (decide ((strValues xs).toArray.size > (strValues ys).toArray.size)) = ltL ((ys.drop i).map (·.1)) ((xs.drop i).map (·.1)) := by
      have : xs.drop i = [] := List.drop_eq_nil_of_le (by omega)
      rw [this]
      cases hy : ys.drop i with
      | nil =>
        have := List.drop_eq_nil_iff.mp hy
        simp [strValues, ltL]; omega
      | cons y r =>
        have : i < ys.length := by
          rcases Nat.lt_or_ge i ys.length with q | q
          · exact q
          · rw [List.drop_eq_nil_of_le q] at hy; cases hy
        simp [strValues, ltL]; omega
    show R (.ok (.ret (.bool (decide ((strValues xs).toArray.size > (strValues ys).toArray.size))))) _
    rw [hsz]; exact h
  | succ k ih =>
    intro i hk h1 h2 prog w A R s h
    obtain ⟨hp, g, d, tk, os⟩ := s; obtain ⟨hl, hb, h⟩ := h
    wp_walk using AutoSeq1.wpAny_loadPart' hl, AutoSeq1.wpAny_loadPart' hb
    rw [strs_at, strs_at]
    have hlt : i < xs.length := by omega
    have e1 : xs[i]? = some xs[i] := List.getElem?_eq_getElem hlt
    rw [e1]
    have ed : xs.drop i = xs[i] :: xs.drop (i + 1) := List.drop_eq_getElem_cons hlt
    rcases Nat.lt_or_ge i ys.length with hly | hly
    · have e2 : ys[i]? = some ys[i] := List.getElem?_eq_getElem hly
      rw [e2]
      have ed2 : ys.drop i = ys[i] :: ys.drop (i + 1) := List.drop_eq_getElem_cons hly
      rw [ed, ed2] at h
      simp only [List.map_cons, ltL] at h
      simp only [Option.map_some]
      refine wpAny_bind (SeqRoads2.EqGives.str xs[i].1 ys[i].1 xs[i].2 ys[i].2 prog w _ _ _ _ ?_)
      rw [beq_cps]
      by_cases he : xs[i].1 = ys[i].1
      · rw [decide_eq_true he]
        rw [if_pos he.symm] at h
        have hc : ((i : Int) + 1) = ((i + 1 : Nat) : Int) := by push_cast; rfl
        wp_walk
        rw [hc]
        exact ⟨plainId_quiet MeetsSeq3.plain_eq_loop _, codeAny_builtin MeetsSeq3.entry_eq_loop (by
          rw [Around.under_plainId MeetsSeq3.plain_eq_loop _]
          exact ih (i + 1) (by omega) hlt hly prog w A R _ ⟨hl, hb, h⟩)⟩
      · rw [decide_eq_false he]
        rw [if_neg (Ne.symm he)] at h
        wp_walk using AutoSeq1.wpAny_loadPart' hl, AutoSeq1.wpAny_loadPart' hb
        rw [strs_at, strs_at, e1, e2]
        simp only [Option.map_some]
        refine wpAny_bind (show wpAny _ _ (compareOp .Gt (.str xs[i].1 xs[i].2) (.str ys[i].1 ys[i].2)) _ _ _ from PySem.P.gt_str ?_)
        wp_walk
        exact h
    · have e2 : ys[i]? = none := List.getElem?_eq_none hly
      rw [e2]
      wp_walk using AutoSeq1.wpAny_loadPart' hl, AutoSeq1.wpAny_loadPart' hb
      have e3 : ys.drop i = [] := List.drop_eq_nil_of_le hly
      rw [ed, e3] at h
      have hsz : (decide ((strValues xs).toArray.size > (strValues ys).toArray.size)) = true := by
        simp [strValues]; omega
      show R (.ok (.ret (.bool (decide ((strValues xs).toArray.size > (strValues ys).toArray.size))))) _
      rw [hsz]; exact h
theorem rc_lt {A : Around} {E : Value → Shared → Prop} {s : Shared} {l b : Addr} {xs ys : List (Str × Tok)} {m m2 : Nat} {Q : Value → Shared → Prop} (h1 : s.heap.get? l = some (lstO (strValues xs) m)) (h2 : s.heap.get? b = some (lstO (strValues ys) m2)) (hu : A.units < cLine)
    (h : Q (.bool (ltL (xs.map (·.1)) (ys.map (·.1)))) s) : wpAny (model prog w) A (richCompare .Lt (.ref l) (.ref b)) Q E s := by
  refine richCompare_meets_room (op := .Lt) (S := fun _ R s' => s' = s ∧ R (.ok (.ret (.bool (ltL (xs.map (·.1)) (ys.map (·.1)))))) s) ⟨_, h1, rfl⟩ ⟨_, h2, rfl⟩ PySem.F.slot_list_lt PySem.F.entry_list_lt (PySem.F.args_list_lt_2 _ _) ?_ ⟨rfl, (fun x => nomatch x), h⟩ hu
  rintro prog w A R s' ⟨rfl, hR⟩
  obtain ⟨hp, g, d, tk, os⟩ := s'
  have f3 := AutoSeq1.sub_list_list
  wp_walk using AutoSeq1.wpAny_loadPart' h1, AutoSeq1.wpAny_loadPart' h2
  exact ⟨plainId_quiet MeetsSeq3.plain_eq_loop _, codeAny_builtin MeetsSeq3.entry_eq_loop (by
    rw [Around.under_plainId MeetsSeq3.plain_eq_loop _]
    exact lt_loop l b xs ys m m2 _ 0 rfl (Nat.zero_le _) (Nat.zero_le _) prog w A R _ ⟨h1, h2, hR⟩)⟩
theorem rc_gt {A : Around} {E : Value → Shared → Prop} {s : Shared} {l b : Addr} {xs ys : List (Str × Tok)} {m m2 : Nat} {Q : Value → Shared → Prop} (h1 : s.heap.get? l = some (lstO (strValues xs) m)) (h2 : s.heap.get? b = some (lstO (strValues ys) m2)) (hu : A.units < cLine)
    (h : Q (.bool (ltL (ys.map (·.1)) (xs.map (·.1)))) s) : wpAny (model prog w) A (richCompare .Gt (.ref l) (.ref b)) Q E s := by
  refine richCompare_meets_room (op := .Gt) (S := fun _ R s' => s' = s ∧ R (.ok (.ret (.bool (ltL (ys.map (·.1)) (xs.map (·.1)))))) s) ⟨_, h1, rfl⟩ ⟨_, h2, rfl⟩ PySem.F.slot_list_gt PySem.F.entry_list_gt (PySem.F.args_list_gt_2 _ _) ?_ ⟨rfl, (fun x => nomatch x), h⟩ hu
  rintro prog w A R s' ⟨rfl, hR⟩
  obtain ⟨hp, g, d, tk, os⟩ := s'
  have f3 := AutoSeq1.sub_list_list
  wp_walk using AutoSeq1.wpAny_loadPart' h1, AutoSeq1.wpAny_loadPart' h2
  exact ⟨plainId_quiet MeetsSeq3.plain_eq_loop _, codeAny_builtin MeetsSeq3.entry_eq_loop (by
    rw [Around.under_plainId MeetsSeq3.plain_eq_loop _]
    exact gt_loop l b xs ys m m2 _ 0 rfl (Nat.zero_le _) (Nat.zero_le _) prog w A R _ ⟨h1, h2, hR⟩)⟩

/-! the least and the greatest of two lists of texts -/
theorem min_two {A : Around} {s : Shared} {R : Result → Shared → Prop} {I S l : Addr} {v1 v2 : Value} {r : Bool} {c : Nat} (hh : A.handled = none) (hit : s.heap.IsListIter I l 0) (hl : s.heap.IsList l #[v1, v2]) (hS : s.heap.get? S = some (lstO [] c)) (hSI : S ≠ I) (hlI : l ≠ I) (hlS : l ≠ S)
    (cmp : ∀ s' : Shared, (∀ b o, b ≠ I → b ≠ S → s.heap.get? b = some o → s'.heap.get? b = some o) → ∀ (E : Value → Shared → Prop) (Q : Value → Shared → Prop), Q (.bool r) s' → wpAny (model prog w) A.in1 (richCompare .Lt v2 v1) Q E s')
    (hR : ∀ h' tk, (∀ b o, b ≠ I → b ≠ S → s.heap.get? b = some o → h'.get? b = some o) → R (.ok (.ret (if r then v2 else v1))) { s with heap := h', toks := tk }) :
    codeAny (model prog w) A (.builtin "min.loop" ⟨[.ref I, .none, .ref S], []⟩) R s := by
  have hname : (toString "min" ++ toString ".loop" : String) = "min.loop" := by decide
  refine codeAny_builtin PySem.F.entry_min_loop ?_
  rw [Around.under_plainId PySem.F.plain_min_loop _]
  show wpAny _ A.in1 (seqItems? (.ref S) >>= _) _ _ s
  refine wpAny_bind (wpAny_seqItems hS rfl ?_)
  show wpAny _ A.in1 (tryCatch (pyNext (.ref I)) _ >>= _) _ _ s
  refine wpAny_bind (wpAny_tryCatch (wpAny_pyNext_list_item hit hl (x := v1) rfl fun h1 hit1 hs1 => ?_))
  have hS1 : h1.get? S = some (lstO [] c) := hs1.extBut _ _ hSI hS
  have hl1 := hl.extBut hs1.extBut hlI
  show wpAny _ A.in1 (updateSeq S (fun _ => #[v1, v1]) >>= _) _ _ _
  refine wpAny_bind (wpAny_updateSeq hS1 rfl ?_)
  have hS2 := Heap.get?_update_self (Obj.mapSeq fun _ => #[v1, v1]) hS1 rfl
  have k2 : ∀ b o, b ≠ S → h1.get? b = some o → (h1.update S (Obj.mapSeq fun _ => #[v1, v1])).get? b = some o := fun b o hb e => (Heap.get?_update_other _ _ (Ne.symm hb)).trans e
  have hit2 : (h1.update S (Obj.mapSeq fun _ => #[v1, v1])).IsListIter I l 1 := let ⟨o, a, b⟩ := hit1; ⟨o, k2 _ _ (Ne.symm hSI) a, b⟩
  have hl2 : (h1.update S (Obj.mapSeq fun _ => #[v1, v1])).IsList l #[v1, v2] := let ⟨o, a, b⟩ := hl1; ⟨o, k2 _ _ hlS a, b⟩
  rw [hname]
  refine wpAny_pure ⟨plainId_quiet PySem.F.plain_min_loop _, codeAny_builtin PySem.F.entry_min_loop ?_⟩
  rw [Around.under_plainId PySem.F.plain_min_loop _]
  show wpAny _ A.in1 (seqItems? (.ref S) >>= _) _ _ _
  refine wpAny_bind (wpAny_seqItems hS2 rfl ?_)
  show wpAny _ A.in1 (tryCatch (pyNext (.ref I)) _ >>= _) _ _ _
  refine wpAny_bind (wpAny_tryCatch (wpAny_pyNext_list_item hit2 hl2 (x := v2) rfl fun h3 hit3 hs3 => ?_))
  have hS3 := hs3.extBut _ _ hSI hS2
  have hl3 := hl2.extBut hs3.extBut hlI
  show wpAny _ A.in1 (tryCatch (holding [v2, v2] (richCompare .Lt v2 v1 >>= _)) _ >>= _) _ _ _
  refine wpAny_bind (wpAny_tryCatch (wpAny_holding (wpAny_bind (cmp _ (fun b o q1 q2 e => hs3.extBut b o q1 (k2 b o q2 (hs1.extBut b o q1 e))) _ _ ?_))))
  refine wpAny_bind (wpAny_holding (wpAny_truthy_bool ?_))
  refine wpAny_bind (wpAny_letGo (wpAny_pure ?_))
  have last : ∀ (h : Heap) (tk : Nat) (vb : Value) (c' : Nat), h.IsListIter I l 2 → h.IsList l #[v1, v2] → h.get? S = some { cls := .type "list", dict := none, data := .seq #[vb, vb] c', slots := #[] } → vb = (if r then v2 else v1) →
      (∀ b o, b ≠ I → b ≠ S → s.heap.get? b = some o → h.get? b = some o) → codeAny (model prog w) A (.builtin "min.loop" ⟨[.ref I, .none, .ref S], []⟩) R { s with heap := h, toks := tk } := by
    intro h tk vb c' hit hl hS hvb hk
    refine codeAny_builtin PySem.F.entry_min_loop ?_
    rw [Around.under_plainId PySem.F.plain_min_loop _]
    show wpAny _ A.in1 (seqItems? (.ref S) >>= _) _ _ _
    refine wpAny_bind (wpAny_seqItems hS rfl ?_)
    show wpAny _ A.in1 (tryCatch (pyNext (.ref I)) _ >>= _) _ _ _
    refine wpAny_bind (wpAny_tryCatch (wpAny_pyNext_list_end (A := A.in1) hh hit hl rfl fun h' he => ?_))
    have hS' := he _ _ hSI hS
    show wpAny _ A.in1 (updateSeq S (fun _ => #[]) >>= _) _ _ _
    refine wpAny_bind ?_
    refine wpAny_updateSeq hS' rfl (wpAny_bind (wpAny_letGo (wpAny_pure ?_)))
    rw [hvb]
    exact hR _ tk fun b o q1 q2 e => (Heap.get?_update_other _ _ (Ne.symm q2)).trans (he b o q1 (hk b o q1 q2 e))
  have kk : ∀ b o, b ≠ I → b ≠ S → s.heap.get? b = some o → h3.get? b = some o := fun b o q1 q2 e => hs3.extBut b o q1 (k2 b o q2 (hs1.extBut b o q1 e))
  cases r with
  | true =>
    simp only [if_true]
    refine wpAny_bind ?_
    refine wpAny_updateSeq hS3 rfl (wpAny_bind (wpAny_letGo ?_))
    rw [hname]
    have k4 : ∀ b o, b ≠ S → h3.get? b = some o → (h3.update S (Obj.mapSeq fun _ => #[v2, v2])).get? b = some o := fun b o hb e => (Heap.get?_update_other _ _ (Ne.symm hb)).trans e
    refine wpAny_pure ⟨plainId_quiet PySem.F.plain_min_loop _, last _ _ v2 _ ?_ ?_ (Heap.get?_update_self _ hS3 rfl) rfl fun b o q1 q2 e => k4 b o q2 (kk b o q1 q2 e)⟩
    · obtain ⟨o, a, b⟩ := hit3; exact ⟨o, k4 _ _ (Ne.symm hSI) a, b⟩
    · obtain ⟨o, a, b⟩ := hl3; exact ⟨o, k4 _ _ hlS a, b⟩
  | false =>
    simp only [Bool.false_eq_true, if_false]
    refine wpAny_bind (wpAny_letGo ?_)
    rw [hname]
    exact wpAny_pure ⟨plainId_quiet PySem.F.plain_min_loop _, last _ _ v1 _ hit3 hl3 hS3 rfl kk⟩
theorem ct_min {xs ys : List Str} : CallT prog w s₀ n (.builtin "min") [.lst [.lst (xs.map .str), .lst (ys.map .str)]] (.lst ((if ltL ys xs then ys else xs).map .str)) := by
  intro A Z R s vs ok W i
  have hu := ok_units ok
  have hname : (toString "min" ++ toString ".loop" : String) = "min.loop" := by decide
  obtain ⟨_, rfl, i1⟩ := i.one_inv
  ·
    obtain ⟨_, _, _, rfl, e, hz, ha⟩ := i1.lst_inv
    ·
      rename_i l us m
      cases ha with
      | cons j1 jr => cases jr with
        | cons j2 jr =>
          cases jr
          rename_i v1 v2
          have q1 := j1
          have q2 := j2
          cases j1 with
          | lst e1 z1 a1 => cases j2 with
            | lst e2 z2 a2 =>
              rename_i b1 us1 m1 b2 us2 m2
              obtain ⟨l1, rfl, x1⟩ := isAll_strs_inv a1
              obtain ⟨l2, rfl, x2⟩ := isAll_strs_inv a2
              have hl : s.heap.IsList l [Value.ref b1, Value.ref b2].toArray := ⟨_, W.frz _ _ e, rfl, _, rfl⟩
              refine call_function_tree PySem.F.kind_min PySem.F.plain_min PySem.F.entry_min (PySem.F.args_min1 _) ?_
              show wpAny _ A.in1 (Builtin.Builtins.bindParams "min" ["key", "default"] 0 ⟨[], []⟩ >>= _) _ _ s
              refine wpAny_bind (wpAny_of_eq (show Builtin.Builtins.bindParams "min" ["key", "default"] 0 ⟨[], []⟩ = pure [none, none] from rfl) ?_)
              refine wpAny_bind (wpAny_pure ?_)
              refine wpAny_bind (wpAny_pyIter_list hl ?_)
              refine wpAny_bind (wpAny_newObj_type ?_)
              rw [hname]
              have hlt : l < s.heap.objs.size := Heap.lt_size (W.frz _ _ e)
              have hz1 : (s.heap.push { cls := .type "list_iterator", data := .fields #[.ref l, rawInt 0] }).objs.size = s.heap.objs.size + 1 := Heap.size_push ..
              have up : ∀ b ob, s.heap.get? b = some ob → ((s.heap.push { cls := .type "list_iterator", data := .fields #[.ref l, rawInt 0] }).push (lstO [] 0)).get? b = some ob := fun b ob e => Heap.get?_push_of_some _ (Heap.get?_push_of_some _ e)
              refine wpAny_pure ⟨plainId_quiet PySem.F.plain_min_loop _, min_two (v1 := .ref b1) (v2 := .ref b2) (r := ltL ys xs) (l := l) (c := 0) ok.handled ⟨_, Heap.get?_push_of_some _ (Heap.get?_push_size _ rfl), rfl, rfl⟩ ⟨_, up _ _ (W.frz _ _ e), rfl, _, rfl⟩ (Heap.get?_push_size _ rfl) (by show (s.heap.push _).objs.size ≠ _; rw [Heap.size_push]; exact Nat.succ_ne_self _) (Nat.ne_of_lt hlt) (by show l ≠ (s.heap.push _).objs.size; rw [Heap.size_push]; exact Nat.ne_of_lt (Nat.lt_succ_of_lt hlt)) ?_ ?_⟩
              · intro s' hk E' Q' q
                have old : ∀ b ob, s.heap.get? b = some ob → s'.heap.get? b = some ob := fun b ob e => hk b ob (Nat.ne_of_lt (Heap.lt_size e)) (by show b ≠ (s.heap.push _).objs.size; rw [Heap.size_push]; exact Nat.ne_of_lt (Nat.lt_succ_of_lt (Heap.lt_size e))) (up b ob e)
                refine rc_lt (old _ _ (W.frz _ _ e2)) (old _ _ (W.frz _ _ e1)) (by show A.units + 1 < cLine; rw [cLine_eq]; omega) ?_
                rw [x1, x2]; exact q
              · intro h' tk hk
                have old : ∀ b ob, s.heap.get? b = some ob → h'.get? b = some ob := fun b ob e => hk b ob (Nat.ne_of_lt (Heap.lt_size e)) (by show b ≠ (s.heap.push _).objs.size; rw [Heap.size_push]; exact Nat.ne_of_lt (Nat.lt_succ_of_lt (Heap.lt_size e))) (up b ob e)
                refine Post.here (W.grow (tk := tk) old) ?_
                cases ltL ys xs
                · exact q1
                · exact q2
theorem max_two {A : Around} {s : Shared} {R : Result → Shared → Prop} {I S l : Addr} {v1 v2 : Value} {r : Bool} {c : Nat} (hh : A.handled = none) (hit : s.heap.IsListIter I l 0) (hl : s.heap.IsList l #[v1, v2]) (hS : s.heap.get? S = some (lstO [] c)) (hSI : S ≠ I) (hlI : l ≠ I) (hlS : l ≠ S)
    (cmp : ∀ s' : Shared, (∀ b o, b ≠ I → b ≠ S → s.heap.get? b = some o → s'.heap.get? b = some o) → ∀ (E : Value → Shared → Prop) (Q : Value → Shared → Prop), Q (.bool r) s' → wpAny (model prog w) A.in1 (richCompare .Gt v2 v1) Q E s')
    (hR : ∀ h' tk, (∀ b o, b ≠ I → b ≠ S → s.heap.get? b = some o → h'.get? b = some o) → R (.ok (.ret (if r then v2 else v1))) { s with heap := h', toks := tk }) :
    codeAny (model prog w) A (.builtin "max.loop" ⟨[.ref I, .none, .ref S], []⟩) R s := by
  have hname : (toString "max" ++ toString ".loop" : String) = "max.loop" := by decide
  refine codeAny_builtin PySem.F.entry_max_loop ?_
  rw [Around.under_plainId PySem.F.plain_max_loop _]
  show wpAny _ A.in1 (seqItems? (.ref S) >>= _) _ _ s
  refine wpAny_bind (wpAny_seqItems hS rfl ?_)
  show wpAny _ A.in1 (tryCatch (pyNext (.ref I)) _ >>= _) _ _ s
  refine wpAny_bind (wpAny_tryCatch (wpAny_pyNext_list_item hit hl (x := v1) rfl fun h1 hit1 hs1 => ?_))
  have hS1 : h1.get? S = some (lstO [] c) := hs1.extBut _ _ hSI hS
  have hl1 := hl.extBut hs1.extBut hlI
  show wpAny _ A.in1 (updateSeq S (fun _ => #[v1, v1]) >>= _) _ _ _
  refine wpAny_bind (wpAny_updateSeq hS1 rfl ?_)
  have hS2 := Heap.get?_update_self (Obj.mapSeq fun _ => #[v1, v1]) hS1 rfl
  have k2 : ∀ b o, b ≠ S → h1.get? b = some o → (h1.update S (Obj.mapSeq fun _ => #[v1, v1])).get? b = some o := fun b o hb e => (Heap.get?_update_other _ _ (Ne.symm hb)).trans e
  have hit2 : (h1.update S (Obj.mapSeq fun _ => #[v1, v1])).IsListIter I l 1 := let ⟨o, a, b⟩ := hit1; ⟨o, k2 _ _ (Ne.symm hSI) a, b⟩
  have hl2 : (h1.update S (Obj.mapSeq fun _ => #[v1, v1])).IsList l #[v1, v2] := let ⟨o, a, b⟩ := hl1; ⟨o, k2 _ _ hlS a, b⟩
  rw [hname]
  refine wpAny_pure ⟨plainId_quiet PySem.F.plain_max_loop _, codeAny_builtin PySem.F.entry_max_loop ?_⟩
  rw [Around.under_plainId PySem.F.plain_max_loop _]
  show wpAny _ A.in1 (seqItems? (.ref S) >>= _) _ _ _
  refine wpAny_bind (wpAny_seqItems hS2 rfl ?_)
  show wpAny _ A.in1 (tryCatch (pyNext (.ref I)) _ >>= _) _ _ _
  refine wpAny_bind (wpAny_tryCatch (wpAny_pyNext_list_item hit2 hl2 (x := v2) rfl fun h3 hit3 hs3 => ?_))
  have hS3 := hs3.extBut _ _ hSI hS2
  have hl3 := hl2.extBut hs3.extBut hlI
  show wpAny _ A.in1 (tryCatch (holding [v2, v2] (richCompare .Gt v2 v1 >>= _)) _ >>= _) _ _ _
  refine wpAny_bind (wpAny_tryCatch (wpAny_holding (wpAny_bind (cmp _ (fun b o q1 q2 e => hs3.extBut b o q1 (k2 b o q2 (hs1.extBut b o q1 e))) _ _ ?_))))
  refine wpAny_bind (wpAny_holding (wpAny_truthy_bool ?_))
  refine wpAny_bind (wpAny_letGo (wpAny_pure ?_))
  have last : ∀ (h : Heap) (tk : Nat) (vb : Value) (c' : Nat), h.IsListIter I l 2 → h.IsList l #[v1, v2] → h.get? S = some { cls := .type "list", dict := none, data := .seq #[vb, vb] c', slots := #[] } → vb = (if r then v2 else v1) →
      (∀ b o, b ≠ I → b ≠ S → s.heap.get? b = some o → h.get? b = some o) → codeAny (model prog w) A (.builtin "max.loop" ⟨[.ref I, .none, .ref S], []⟩) R { s with heap := h, toks := tk } := by
    intro h tk vb c' hit hl hS hvb hk
    refine codeAny_builtin PySem.F.entry_max_loop ?_
    rw [Around.under_plainId PySem.F.plain_max_loop _]
    show wpAny _ A.in1 (seqItems? (.ref S) >>= _) _ _ _
    refine wpAny_bind (wpAny_seqItems hS rfl ?_)
    show wpAny _ A.in1 (tryCatch (pyNext (.ref I)) _ >>= _) _ _ _
    refine wpAny_bind (wpAny_tryCatch (wpAny_pyNext_list_end (A := A.in1) hh hit hl rfl fun h' he => ?_))
    have hS' := he _ _ hSI hS
    show wpAny _ A.in1 (updateSeq S (fun _ => #[]) >>= _) _ _ _
    refine wpAny_bind ?_
    refine wpAny_updateSeq hS' rfl (wpAny_bind (wpAny_letGo (wpAny_pure ?_)))
    rw [hvb]
    exact hR _ tk fun b o q1 q2 e => (Heap.get?_update_other _ _ (Ne.symm q2)).trans (he b o q1 (hk b o q1 q2 e))
  have kk : ∀ b o, b ≠ I → b ≠ S → s.heap.get? b = some o → h3.get? b = some o := fun b o q1 q2 e => hs3.extBut b o q1 (k2 b o q2 (hs1.extBut b o q1 e))
  cases r with
  | true =>
    simp only [if_true]
    refine wpAny_bind ?_
    refine wpAny_updateSeq hS3 rfl (wpAny_bind (wpAny_letGo ?_))
    rw [hname]
    have k4 : ∀ b o, b ≠ S → h3.get? b = some o → (h3.update S (Obj.mapSeq fun _ => #[v2, v2])).get? b = some o := fun b o hb e => (Heap.get?_update_other _ _ (Ne.symm hb)).trans e
    refine wpAny_pure ⟨plainId_quiet PySem.F.plain_max_loop _, last _ _ v2 _ ?_ ?_ (Heap.get?_update_self _ hS3 rfl) rfl fun b o q1 q2 e => k4 b o q2 (kk b o q1 q2 e)⟩
    · obtain ⟨o, a, b⟩ := hit3; exact ⟨o, k4 _ _ (Ne.symm hSI) a, b⟩
    · obtain ⟨o, a, b⟩ := hl3; exact ⟨o, k4 _ _ hlS a, b⟩
  | false =>
    simp only [Bool.false_eq_true, if_false]
    refine wpAny_bind (wpAny_letGo ?_)
    rw [hname]
    exact wpAny_pure ⟨plainId_quiet PySem.F.plain_max_loop _, last _ _ v1 _ hit3 hl3 hS3 rfl kk⟩
theorem ct_max {xs ys : List Str} : CallT prog w s₀ n (.builtin "max") [.lst [.lst (xs.map .str), .lst (ys.map .str)]] (.lst ((if ltL xs ys then ys else xs).map .str)) := by
  intro A Z R s vs ok W i
  have hu := ok_units ok
  have hname : (toString "max" ++ toString ".loop" : String) = "max.loop" := by decide
  obtain ⟨_, rfl, i1⟩ := i.one_inv
  ·
    obtain ⟨_, _, _, rfl, e, hz, ha⟩ := i1.lst_inv
    ·
      rename_i l us m
      cases ha with
      | cons j1 jr => cases jr with
        | cons j2 jr =>
          cases jr
          rename_i v1 v2
          have q1 := j1
          have q2 := j2
          cases j1 with
          | lst e1 z1 a1 => cases j2 with
            | lst e2 z2 a2 =>
              rename_i b1 us1 m1 b2 us2 m2
              obtain ⟨l1, rfl, x1⟩ := isAll_strs_inv a1
              obtain ⟨l2, rfl, x2⟩ := isAll_strs_inv a2
              have hl : s.heap.IsList l [Value.ref b1, Value.ref b2].toArray := ⟨_, W.frz _ _ e, rfl, _, rfl⟩
              refine call_function_tree PySem.F.kind_max PySem.F.plain_max PySem.F.entry_max (PySem.F.args_max1 _) ?_
              show wpAny _ A.in1 (Builtin.Builtins.bindParams "max" ["key", "default"] 0 ⟨[], []⟩ >>= _) _ _ s
              refine wpAny_bind (wpAny_of_eq (show Builtin.Builtins.bindParams "max" ["key", "default"] 0 ⟨[], []⟩ = pure [none, none] from rfl) ?_)
              refine wpAny_bind (wpAny_pure ?_)
              refine wpAny_bind (wpAny_pyIter_list hl ?_)
              refine wpAny_bind (wpAny_newObj_type ?_)
              rw [hname]
              have hlt : l < s.heap.objs.size := Heap.lt_size (W.frz _ _ e)
              have hz1 : (s.heap.push { cls := .type "list_iterator", data := .fields #[.ref l, rawInt 0] }).objs.size = s.heap.objs.size + 1 := Heap.size_push ..
              have up : ∀ b ob, s.heap.get? b = some ob → ((s.heap.push { cls := .type "list_iterator", data := .fields #[.ref l, rawInt 0] }).push (lstO [] 0)).get? b = some ob := fun b ob e => Heap.get?_push_of_some _ (Heap.get?_push_of_some _ e)
              refine wpAny_pure ⟨plainId_quiet PySem.F.plain_max_loop _, max_two (v1 := .ref b1) (v2 := .ref b2) (r := ltL xs ys) (l := l) (c := 0) ok.handled ⟨_, Heap.get?_push_of_some _ (Heap.get?_push_size _ rfl), rfl, rfl⟩ ⟨_, up _ _ (W.frz _ _ e), rfl, _, rfl⟩ (Heap.get?_push_size _ rfl) (by show (s.heap.push _).objs.size ≠ _; rw [Heap.size_push]; exact Nat.succ_ne_self _) (Nat.ne_of_lt hlt) (by show l ≠ (s.heap.push _).objs.size; rw [Heap.size_push]; exact Nat.ne_of_lt (Nat.lt_succ_of_lt hlt)) ?_ ?_⟩
              · intro s' hk E' Q' q
                have old : ∀ b ob, s.heap.get? b = some ob → s'.heap.get? b = some ob := fun b ob e => hk b ob (Nat.ne_of_lt (Heap.lt_size e)) (by show b ≠ (s.heap.push _).objs.size; rw [Heap.size_push]; exact Nat.ne_of_lt (Nat.lt_succ_of_lt (Heap.lt_size e))) (up b ob e)
                refine rc_gt (old _ _ (W.frz _ _ e2)) (old _ _ (W.frz _ _ e1)) (by show A.units + 1 < cLine; rw [cLine_eq]; omega) ?_
                rw [x1, x2]; exact q
              · intro h' tk hk
                have old : ∀ b ob, s.heap.get? b = some ob → h'.get? b = some ob := fun b ob e => hk b ob (Nat.ne_of_lt (Heap.lt_size e)) (by show b ≠ (s.heap.push _).objs.size; rw [Heap.size_push]; exact Nat.ne_of_lt (Nat.lt_succ_of_lt (Heap.lt_size e))) (up b ob e)
                refine Post.here (W.grow (tk := tk) old) ?_
                cases ltL xs ys
                · exact q1
                · exact q2
end Mine
namespace Mine
open PySem PySem.Calls PySem.W PyProof.Rows
variable {prog : Program} {w : World}

/-! zip of two sources that are drawn from -/
section
variable {A : Around} {E : Value → Shared → Prop} {s : Shared}
theorem nextOf_tuple_item {it t : Addr} {i : Nat} {items : Array Value} {x : Value} {Q : Value → Shared → Prop} (hit : s.heap.IsTupleIter it t i) (ht : s.heap.IsTuple t items) (hx : items[i]? = some x)
    (hQ : ∀ h', h'.IsTupleIter it t (i + 1) → Heap.SameBut it s.heap h' → Q x { s with heap := h' }) : wpAny (model prog w) A (Builtin.SmallTypes.nextOf (.ref it)) Q E s := by
  obtain ⟨o, ho, hc, hd⟩ := id hit
  obtain ⟨ol, hol, _, nl, hdl⟩ := ht
  unfold Builtin.SmallTypes.nextOf
  refine wpAny_bind (wpAny_callSpecial?_slot (name := Str.ofString "__next__") hit.typeIs PySem.F.slot_tuple_iterator_next (wpAny_call_entry PySem.F.slot_tuple_iterator_next hit.typeIs PySem.F.entry_tuple_iterator_next ?_ (PySem.F.args_tuple_iterator_next_1 _)))
  show wpAny _ _ (field (.ref it) 0 >>= _) _ _ s
  refine wpAny_bind (wpAny_field ho hd (x := .ref t) rfl ?_)
  show wpAny _ _ (if (Value.ref t == Value.none) = true then _ else _) _ _ s
  rw [if_neg (show ¬ ((Value.ref t == Value.none) = true) from Bool.false_ne_true)]
  show wpAny _ _ (field (.ref it) 1 >>= _) _ _ s
  refine wpAny_bind (wpAny_field ho hd (x := .int i 0) rfl ?_)
  show wpAny _ _ (seqItems? (.ref t) >>= _) _ _ s
  refine wpAny_bind (wpAny_seqItems hol hdl ?_)
  simp only [Int.toNat_natCast, hx]
  refine wpAny_bind (wpAny_setField ho hd (by simp) (wpAny_pure ⟨x, rfl, wpAny_pure (hQ _ ?_ (Heap.SameBut.update ..))⟩))
  exact ⟨_, Heap.get?_update_self _ ho (Obj.isFreed_of_fields (Obj.data_mapFields hd _)), (Obj.cls_mapFields ..).trans hc, by rw [Obj.data_mapFields hd]; simp [rawInt]⟩
theorem nextOf_tuple_end {it t : Addr} {i : Nat} {items : Array Value} {Q : Value → Shared → Prop} (hh : A.handled = none) (hit : s.heap.IsTupleIter it t i) (ht : s.heap.IsTuple t items) (hx : items[i]? = none)
    (hE : ∀ h' e, Heap.ExtBut it s.heap h' → (∃ o, h'.get? e = some o ∧ o.cls = .type "StopIteration") → E (.ref e) { s with heap := h' }) : wpAny (model prog w) A (Builtin.SmallTypes.nextOf (.ref it)) Q E s := by
  obtain ⟨o, ho, hc, hd⟩ := id hit
  obtain ⟨ol, hol, _, nl, hdl⟩ := ht
  unfold Builtin.SmallTypes.nextOf
  refine wpAny_bind (wpAny_callSpecial?_slot (name := Str.ofString "__next__") hit.typeIs PySem.F.slot_tuple_iterator_next (wpAny_call_entry PySem.F.slot_tuple_iterator_next hit.typeIs PySem.F.entry_tuple_iterator_next ?_ (PySem.F.args_tuple_iterator_next_1 _)))
  show wpAny _ _ (field (.ref it) 0 >>= _) _ _ s
  refine wpAny_bind (wpAny_field ho hd (x := .ref t) rfl ?_)
  show wpAny _ _ (if (Value.ref t == Value.none) = true then _ else _) _ _ s
  rw [if_neg (show ¬ ((Value.ref t == Value.none) = true) from Bool.false_ne_true)]
  show wpAny _ _ (field (.ref it) 1 >>= _) _ _ s
  refine wpAny_bind (wpAny_field ho hd (x := .int i 0) rfl ?_)
  show wpAny _ _ (seqItems? (.ref t) >>= _) _ _ s
  refine wpAny_bind (wpAny_seqItems hol hdl ?_)
  simp only [Int.toNat_natCast, hx]
  refine wpAny_bind (wpAny_rule (wpAny_bind (wpAny_setField ho hd (by simp) ?_)))
  show wpAny _ _ (newExc (.type "StopIteration") [] >>= _) _ _ _
  refine wpAny_bind ?_
  simp only [newExc, newTuple]
  refine wpAny_bind (wpAny_newObj_type ?_ (by size_fits))
  refine wpAny_bind (m := firstArgMember _ _) (wpAny_of_eq (a := Value.none) (by first | rfl | (simp only [firstArgMember]; rfl)) ?_)
  refine wpAny_newObj_type ?_ (by size_fits)
  simp only [raiseNew]
  refine wpAny_bind (wpAny_handled ?_)
  rw [show A.in1.handled = none from hh]
  refine wpAny_bind (wpAny_pure (wpAny_throw ?_))
  exact hE _ _ (((Heap.SameBut.update ..).extBut.push _).push _) ⟨_, Heap.get?_push_size _ rfl, rfl⟩
end
theorem drawsTup {A : Around} (hh : A.handled = none) (it t : Addr) (hne : t ≠ it) (items : Array Value) :
    Draws prog w A it [it, t] items.size (fun i v => items[i]? = some v) (fun i h => h.IsTupleIter it t i ∧ h.IsTuple t items) where
  live := fun _ _ st => let ⟨o, ho, _⟩ := st.1; ⟨o, ho⟩
  frame := fun _ _ _ st hk => ⟨st.1.at fun o e => hk it (by simp) o e, st.2.at fun o e => hk t (by simp) o e⟩
  item := fun i s Q E hi st hQ => by
    refine nextOf_tuple_item st.1 st.2 (x := items[i]) (by simp [hi]) fun h' hit' hs' => ?_
    exact hQ _ h' s.toks (by simp [hi]) ⟨hit', st.2.extBut hs'.extBut hne⟩ hs'
  done := fun s Q E st hE => nextOf_tuple_end hh st.1 st.2 (by simp) hE

/-- how the cells of a zip stand apart -/
structure ZAp (z TI TO i1 i2 : Addr) (f1 f2 : List Addr) : Prop where
  m1 : i1 ∈ f1
  m2 : i2 ∈ f2
  z1 : z ∉ f1
  z2 : z ∉ f2
  o1 : TO ∉ f1
  o2 : TO ∉ f2
  t1 : TI ∉ f1
  t2 : TI ∉ f2
  x1 : i1 ∉ f2
  x2 : i2 ∉ f1
  tz : TI ≠ z
  oz : TO ≠ z
  to : TI ≠ TO
theorem ZAp.ne1 {z TI TO i1 i2 : Addr} {f1 f2 : List Addr} (D : ZAp z TI TO i1 i2 f1 f2) : z ≠ i1 ∧ TO ≠ i1 ∧ TI ≠ i1 := ⟨fun e => D.z1 (e ▸ D.m1), fun e => D.o1 (e ▸ D.m1), fun e => D.t1 (e ▸ D.m1)⟩
theorem ZAp.ne2 {z TI TO i1 i2 : Addr} {f1 f2 : List Addr} (D : ZAp z TI TO i1 i2 f1 f2) : z ≠ i2 ∧ TO ≠ i2 ∧ TI ≠ i2 := ⟨fun e => D.z2 (e ▸ D.m2), fun e => D.o2 (e ▸ D.m2), fun e => D.t2 (e ▸ D.m2)⟩

section
variable {A : Around} {E : Value → Shared → Prop} {s : Shared} {z TI TO i1 i2 : Addr} {f1 f2 : List Addr} {n1 n2 : Nat} {P1 P2 : Nat → Value → Prop} {S1 S2 : Nat → Heap → Prop}
theorem keep_fp {f : List Addr} {a : Addr} {h h' : Heap} (hs : Heap.SameBut a h h') (ha : a ∉ f) : ∀ b ∈ f, ∀ o, h.get? b = some o → h'.get? b = some o := fun b hb o e => (hs.2 b fun q => ha (q ▸ hb)).trans e
theorem zipD_item {k : Nat} {a b : Value} {Q : Value → Shared → Prop} (D1 : Draws prog w A i1 f1 n1 P1 S1) (D2 : Draws prog w A i2 f2 n2 P2 S2) (D : ZAp z TI TO i1 i2 f1 f2) (hz : IsZip s.heap z TI TO .none) (hTI : IsPair s.heap TI (.ref i1) (.ref i2)) (hTO : IsPair s.heap TO a b)
    (h1 : S1 k s.heap) (h2 : S2 k s.heap) (k1 : k < n1) (k2 : k < n2)
    (hQ : ∀ h' tk x y, P1 k x → P2 k y → IsZip h' z TI TO (rawInt s.heap.objs.size) → IsPair h' TO x y → S1 (k + 1) h' → S2 (k + 1) h' → IsPair h' s.heap.objs.size x y →
      (∀ c o, c ≠ z → c ≠ TO → c ≠ i1 → c ≠ i2 → s.heap.get? c = some o → h'.get? c = some o) → Q (.ref s.heap.objs.size) { s with heap := h', toks := tk }) :
    wpAny (model prog w) A (Builtin.«zip.__next__» ⟨[.ref z], []⟩) (fun fin s' => ∃ v, fin = .done (.ret v) ∧ Q v s') E s := by
  show wpAny _ _ (field (.ref z) 2 >>= _) _ _ _
  refine wpAny_bind (wpAny_field hz rfl (x := .bool false) rfl ?_)
  show wpAny _ _ (field (.ref z) 3 >>= _) _ _ _
  refine wpAny_bind (wpAny_field hz rfl (x := .ref TI) rfl (wpAny_bind (wpAny_seqItems hTI rfl ?_)))
  show wpAny _ _ (Builtin.SmallTypes.ownedTupleIsFree (.ref z) >>= _) _ _ _
  refine wpAny_bind ?_
  unfold Builtin.SmallTypes.ownedTupleIsFree
  refine wpAny_bind (wpAny_field hz rfl (x := .none) rfl (wpAny_pure ?_))
  simp only [if_true]
  refine wpAny_bind (wpAny_rule (wpAny_bind (wpAny_field hz rfl (x := .ref TO) rfl ?_)))
  refine wpAny_bind (wpAny_setField_rec hz (by simp) fun ha hza hsa => ?_)
  replace hza : IsZip ha z TI TO .ellipsis := hza
  replace hsa : Heap.SameBut z s.heap ha := hsa
  refine wpAny_bind ?_
  simp only [List.zipIdx_cons, List.zipIdx_nil, List.forIn_cons, List.forIn_nil]
  refine wpAny_bind (wpAny_bind (wpAny_onRaise ?_))
  show wpAny _ _ (Builtin.SmallTypes.nextOf (.ref i1) >>= _) _ _ _
  refine wpAny_bind (D1.item k { s with heap := ha } _ _ k1 (D1.frame _ _ _ h1 (keep_fp hsa D.z1)) fun x hb tb px s1 hsb => wpAny_pure ?_)
  replace hsb : Heap.SameBut i1 ha hb := hsb
  have hTOb : IsPair hb TO a b := hsb.extBut _ _ D.ne1.2.1 (hsa.extBut _ _ D.oz hTO)
  refine wpAny_bind (wpAny_seqItems hTOb rfl ?_)
  refine wpAny_bind (wpAny_updateSeq_pair hTOb fun hc hTOc hsc => ?_)
  replace hTOc : IsPair hc TO x b := hTOc
  replace hsc : Heap.SameBut TO hb hc := hsc
  refine wpAny_bind (wpAny_letGo (wpAny_pure ?_))
  refine wpAny_bind (wpAny_bind (wpAny_onRaise ?_))
  show wpAny _ _ (Builtin.SmallTypes.nextOf (.ref i2) >>= _) _ _ _
  have h2c : S2 k hc := D2.frame _ _ _ (D2.frame _ _ _ (D2.frame _ _ _ h2 (keep_fp hsa D.z2)) (keep_fp hsb D.x1)) (keep_fp hsc D.o2)
  refine wpAny_bind (D2.item k { s with heap := hc, toks := tb } _ _ k2 h2c fun y hd td py s2 hsd => wpAny_pure ?_)
  replace hsd : Heap.SameBut i2 hc hd := hsd
  have hTOd : IsPair hd TO x b := hsd.extBut _ _ D.ne2.2.1 hTOc
  refine wpAny_bind (wpAny_seqItems hTOd rfl ?_)
  refine wpAny_bind (wpAny_updateSeq_pair hTOd fun he hTOe hse => ?_)
  replace hTOe : IsPair he TO x y := hTOe
  replace hse : Heap.SameBut TO hd he := hse
  refine wpAny_bind (wpAny_letGo (wpAny_pure (wpAny_pure ?_)))
  refine wpAny_bind (wpAny_seqItems hTOe rfl (wpAny_bind (wpAny_newTuple ?_)))
  have hsz : he.objs.size = s.heap.objs.size := by rw [hse.1, hsd.1, hsc.1, hsb.1, hsa.1]
  have hze : IsZip he z TI TO .ellipsis := hse.extBut _ _ D.oz.symm (hsd.extBut _ _ D.ne2.1 (hsc.extBut _ _ D.oz.symm (hsb.extBut _ _ D.ne1.1 hza)))
  have hke : ∀ c o, c ≠ z → c ≠ TO → c ≠ i1 → c ≠ i2 → s.heap.get? c = some o → he.get? c = some o := fun c o c1 c2 c3 c4 e =>
    hse.extBut _ _ c2 (hsd.extBut _ _ c4 (hsc.extBut _ _ c2 (hsb.extBut _ _ c3 (hsa.extBut _ _ c1 e))))
  have s1e : S1 (k + 1) he := D1.frame _ _ _ (D1.frame _ _ _ (D1.frame _ _ _ s1 (keep_fp hsc D.o1)) (keep_fp hsd D.x2)) (keep_fp hse D.o1)
  have s2e : S2 (k + 1) he := D2.frame _ _ _ s2 (keep_fp hse D.o2)
  have hzlt : z < he.objs.size := Heap.lt_size hze
  show wpAny _ _ (Builtin.SmallTypes.ownedTupleHandOut (.ref z) (.ref he.objs.size) >>= _) _ _ _
  refine wpAny_bind ?_
  unfold Builtin.SmallTypes.ownedTupleHandOut
  have hzf : IsZip (he.push { cls := .type "tuple", data := .seq #[x, y] }) z TI TO .ellipsis := Heap.get?_push_of_some _ hze
  refine wpAny_bind (wpAny_setField_rec hzf (by simp) fun hg hzg hsg => ?_)
  replace hzg : IsZip hg z TI TO (rawInt he.objs.size) := hzg
  refine wpAny_setField_rec hzg (by simp) fun hi hzi hsi => ?_
  replace hzi : IsZip hi z TI TO (rawInt he.objs.size) := hzi
  have up : ∀ c o, c ≠ z → he.get? c = some o → hi.get? c = some o := fun c o c1 e => hsi.extBut _ _ c1 (hsg.extBut _ _ c1 (Heap.get?_push_of_some _ e))
  have hTn : IsPair hi he.objs.size x y := hsi.extBut _ _ (Nat.ne_of_gt hzlt) (hsg.extBut _ _ (Nat.ne_of_gt hzlt) (Heap.get?_push_size _ rfl))
  rw [hsz] at hzi hTn
  refine wpAny_pure ⟨_, rfl, ?_⟩
  show Q (.ref he.objs.size) _
  rw [hsz]
  exact hQ hi td x y px py hzi (up _ _ D.oz hTOe) (D1.frame _ _ _ s1e fun c hc o e => up c o (fun q => D.z1 (q ▸ hc)) e) (D2.frame _ _ _ s2e fun c hc o e => up c o (fun q => D.z2 (q ▸ hc)) e) hTn
    fun c o c1 c2 c3 c4 e => up c o c1 (hke c o c1 c2 c3 c4 e)
theorem zipD_end {k : Nat} {a b : Value} {Q : Fin → Shared → Prop} (D1 : Draws prog w A i1 f1 k P1 S1) (D : ZAp z TI TO i1 i2 f1 f2) (hz : IsZip s.heap z TI TO .none) (hTI : IsPair s.heap TI (.ref i1) (.ref i2)) (hTO : IsPair s.heap TO a b) (h1 : S1 k s.heap)
    (hE : ∀ h' tk e, (∀ c o, c ≠ z → c ≠ TO → c ≠ i1 → c ≠ i2 → s.heap.get? c = some o → h'.get? c = some o) → (∃ o, h'.get? e = some o ∧ o.cls = .type "StopIteration") → E (.ref e) { s with heap := h', toks := tk }) :
    wpAny (model prog w) A (Builtin.«zip.__next__» ⟨[.ref z], []⟩) Q E s := by
  show wpAny _ _ (field (.ref z) 2 >>= _) _ _ _
  refine wpAny_bind (wpAny_field hz rfl (x := .bool false) rfl ?_)
  show wpAny _ _ (field (.ref z) 3 >>= _) _ _ _
  refine wpAny_bind (wpAny_field hz rfl (x := .ref TI) rfl (wpAny_bind (wpAny_seqItems hTI rfl ?_)))
  show wpAny _ _ (Builtin.SmallTypes.ownedTupleIsFree (.ref z) >>= _) _ _ _
  refine wpAny_bind ?_
  unfold Builtin.SmallTypes.ownedTupleIsFree
  refine wpAny_bind (wpAny_field hz rfl (x := .none) rfl (wpAny_pure ?_))
  simp only [if_true]
  refine wpAny_bind (wpAny_rule (wpAny_bind (wpAny_field hz rfl (x := .ref TO) rfl ?_)))
  refine wpAny_bind (wpAny_setField_rec hz (by simp) fun ha hza hsa => ?_)
  replace hza : IsZip ha z TI TO .ellipsis := hza
  replace hsa : Heap.SameBut z s.heap ha := hsa
  refine wpAny_bind ?_
  simp only [List.zipIdx_cons, List.zipIdx_nil, List.forIn_cons, List.forIn_nil]
  refine wpAny_bind (wpAny_bind (wpAny_onRaise ?_))
  show wpAny _ _ (Builtin.SmallTypes.nextOf (.ref i1) >>= _) _ _ _
  refine wpAny_bind (D1.done { s with heap := ha } _ _ (D1.frame _ _ _ h1 (keep_fp hsa D.z1)) fun hb e hsb he => ?_)
  obtain ⟨oe, hoe, hce⟩ := he
  replace hsb : Heap.ExtBut i1 ha hb := hsb
  have hzb : IsZip hb z TI TO .ellipsis := hsb _ _ D.ne1.1 hza
  have hez : e ≠ z := fun x => by subst x; rw [hzb] at hoe; cases hoe; simp at hce
  refine wpAny_setField_rec hzb (by simp) fun hc _ hsc => hE hc _ e (fun c o c1 _ c3 _ x => hsc.extBut _ _ c1 (hsb _ _ c3 (hsa.extBut _ _ c1 x))) ⟨oe, hsc.extBut _ _ hez hoe, hce⟩
end
end Mine
namespace Mine
open PySem PySem.Calls PySem.W PyProof.Rows
variable {prog : Program} {w : World} {s₀ : Shared} {n : Nat} {env : Env} {σ : Sto}

theorem zipU {A : Around} (hh : A.handled = none) {z TI TO i1 i2 l1 l2 : Addr} (D : ZAp z TI TO i1 i2 [i1, l1] [i2, l2]) (h1 : l1 ≠ i1) (h2 : l2 ≠ i2) (xs ys : Array Value) (hlen : xs.size = ys.size) :
    WalksU prog w A z [z, TI, TO, i1, i2, l1, l2] [z, TO, i1, i2] xs.size (fun i vals => ∃ x y, xs[i]? = some x ∧ ys[i]? = some y ∧ vals = #[x, y])
      (fun i h => IsZip h z TI TO .none ∧ IsPair h TI (.ref i1) (.ref i2) ∧ (∃ a b, IsPair h TO a b) ∧ (h.IsTupleIter i1 l1 i ∧ h.IsTuple l1 xs) ∧ (h.IsTupleIter i2 l2 i ∧ h.IsTuple l2 ys))
      (fun i T h => IsZip h z TI TO (rawInt T) ∧ IsPair h TI (.ref i1) (.ref i2) ∧ (∃ a b, IsPair h TO a b) ∧ (h.IsTupleIter i1 l1 (i + 1) ∧ h.IsTuple l1 xs) ∧ (h.IsTupleIter i2 l2 (i + 1) ∧ h.IsTuple l2 ys) ∧ T ≠ z ∧ T ≠ TO ∧ T ≠ i1 ∧ T ≠ i2) := by
  have D1 := fun (A' : Around) (h : A'.handled = none) => drawsTup (prog := prog) (w := w) (A := A') h i1 l1 h1 xs
  have D2 := fun (A' : Around) (h : A'.handled = none) => drawsTup (prog := prog) (w := w) (A := A') h i2 l2 h2 ys
  have e1 := D.ne1
  have e2 := D.ne2
  have q1 : z ≠ l1 := fun e => D.z1 (by simp [e])
  have q2 : z ≠ l2 := fun e => D.z2 (by simp [e])
  exact {
    sub := fun c hc => by simp at hc ⊢; rcases hc with rfl | rfl | rfl | rfl <;> simp
    frame := fun i h h' hst hk => by
      obtain ⟨hz, hTI, ⟨a, b, hTO⟩, s1, s2⟩ := hst
      exact ⟨hk z (by simp) _ hz, hk TI (by simp) _ hTI, ⟨a, b, hk TO (by simp) _ hTO⟩, (D1 A hh).frame _ _ _ s1 (fun c hc o e => hk c (by simp at hc ⊢; rcases hc with rfl | rfl <;> simp) o e),
        (D2 A hh).frame _ _ _ s2 (fun c hc o e => hk c (by simp at hc ⊢; rcases hc with rfl | rfl <;> simp) o e)⟩
    item := fun i s Q E hi hst hQ => by
      obtain ⟨hz, hTI, ⟨a, b, hTO⟩, s1, s2⟩ := hst
      have hT : s.TypeIs (.ref z) "zip" := ⟨_, hz, rfl⟩
      have lt : ∀ {c o}, s.heap.get? c = some o → s.heap.objs.size ≠ c := fun e => Nat.ne_of_gt (Heap.lt_size e)
      unfold pyNext
      refine wpAny_bind (wpAny_attempt (wpAny_callSpecial?_slot (name := Str.ofString "__next__") hT PySem.F.slot_zip_next (wpAny_call_entry PySem.F.slot_zip_next hT PySem.F.entry_zip_next
        (zipD_item (D1 A.in1 hh) (D2 A.in1 hh) D hz hTI hTO s1 s2 hi (hlen ▸ hi) fun h' tk x y px py a1 a2 a3 a4 a5 hk => wpAny_pure ?_) (PySem.F.args_zip_next_1 _))))
      refine hQ s.heap.objs.size #[x, y] h' tk ⟨x, y, px, py, rfl⟩ ⟨_, a5, rfl, _, rfl⟩ ⟨a1, hk _ _ D.tz D.to e1.2.2 e2.2.2 hTI, ⟨_, _, a2⟩, a3, a4, lt hz, lt hTO, ?_, ?_⟩
        fun c o hc e => hk c o (fun x => hc (by simp [x])) (fun x => hc (by simp [x])) (fun x => hc (by simp [x])) (fun x => hc (by simp [x])) e
      · obtain ⟨_, e, _⟩ := s1.1; exact lt e
      · obtain ⟨_, e, _⟩ := s2.1; exact lt e
    go := fun elts k pos i T s Q E hm hQ => by
      obtain ⟨hz, hTI, ⟨a, b, hTO⟩, s1, s2, _⟩ := hm
      refine wpAny_letOwnedTupleGo_zip hz fun h' hz' hs' => hQ h' ⟨hz', hs'.extBut _ _ D.tz hTI, ⟨a, b, hs'.extBut _ _ D.oz hTO⟩, (D1 A hh).frame _ _ _ s1 (keep_fp hs' (by simp [e1.1, q1])), (D2 A hh).frame _ _ _ s2 (keep_fp hs' (by simp [e2.1, q2]))⟩
        fun c o hc e => hs'.extBut _ _ (fun x => hc (by simp [x])) e
    apart := fun i T h hm hT => by
      obtain ⟨_, _, _, _, _, t1, t2, t3, t4⟩ := hm
      simp at hT
      rcases hT with rfl | rfl | rfl | rfl
      · exact t1 rfl
      · exact t2 rfl
      · exact t3 rfl
      · exact t4 rfl
    done := fun s Q E hst hQ => by
      obtain ⟨hz, hTI, ⟨a, b, hTO⟩, s1, s2⟩ := hst
      have hT : s.TypeIs (.ref z) "zip" := ⟨_, hz, rfl⟩
      unfold pyNext
      refine wpAny_bind (wpAny_attempt (wpAny_callSpecial?_slot (name := Str.ofString "__next__") hT PySem.F.slot_zip_next (wpAny_call_entry PySem.F.slot_zip_next hT PySem.F.entry_zip_next
        (zipD_end (D1 A.in1 hh) D hz hTI hTO s1 fun h' tk e hk he => ?_) (PySem.F.args_zip_next_1 _))))
      obtain ⟨o, ho, hc⟩ := he
      refine wpAny_bind (wpAny_isInstance (T := "StopIteration") (b := true) ⟨o, ho, hc⟩ isSubtype_stop ?_)
      exact wpAny_pure (hQ _ _ fun c o hc e => hk c o (fun x => hc (by simp [x])) (fun x => hc (by simp [x])) (fun x => hc (by simp [x])) (fun x => hc (by simp [x])) e)
    self := fun i s Q E hst hQ => wpAny_pyIter_zip hst.1 hQ }

abbrev zt1 (h : Heap) (l1 : Addr) : Heap := h.push { cls := .type "tuple_iterator", data := .fields #[.ref l1, .int 0 0] }
abbrev zt2 (h : Heap) (l1 l2 : Addr) : Heap := (zt1 h l1).push { cls := .type "tuple_iterator", data := .fields #[.ref l2, .int 0 0] }
abbrev zt3 (h : Heap) (l1 l2 : Addr) : Heap := (zt2 h l1 l2).push { cls := .type "tuple", data := .seq #[.ref h.objs.size, .ref (zt1 h l1).objs.size] }
abbrev zt4 (h : Heap) (l1 l2 : Addr) : Heap := (zt3 h l1 l2).push { cls := .type "tuple", data := .seq #[.none, .none] }
abbrev zt5 (h : Heap) (l1 l2 : Addr) : Heap := (zt4 h l1 l2).push { cls := .type "zip", data := .fields #[.none, .bool false, .bool false, .ref (zt2 h l1 l2).objs.size, .ref (zt3 h l1 l2).objs.size] }
theorem zip_new_tups (l1 l2 : Addr) (xs ys : Array Value) :
    Meets (Builtin.«zip.__new__» ⟨[.type "zip", .ref l1, .ref l2], []⟩) (fun _ R s => s.heap.IsTuple l1 xs ∧ s.heap.IsTuple l2 ys ∧ R (.ok (.ret (.ref (zt4 s.heap l1 l2).objs.size))) { s with heap := zt5 s.heap l1 l2 }) :=
  .of_wp fun prog w A R s h => by
    obtain ⟨hp, g, d, tk, os⟩ := s; obtain ⟨hl1, hl2, h⟩ := h
    have hsub := sub_zip
    have hL1 : Heap.IsTuple (Shared.heap ⟨hp, g, d, tk, os⟩) l1 xs := hl1
    have hL2 : Heap.IsTuple (Shared.heap ⟨hp.push { cls := .type "tuple_iterator", data := .fields #[.ref l1, .int 0 0] }, g, d, tk, os⟩) l2 ys := Heap.IsTuple.push hl2 _
    wp_walk using wpAny_pyIter_tuple hL1, wpAny_pyIter_tuple hL2
    exact ⟨_, rfl, h⟩
theorem call_zip_tups {A : Around} {E : Value → Shared → Prop} {s : Shared} {l1 l2 : Addr} {xs ys : Array Value} {Q : Value → Shared → Prop} (hl1 : s.heap.IsTuple l1 xs) (hl2 : s.heap.IsTuple l2 ys)
    (h : ∀ h', IsZip h' (s.heap.objs.size + 4) (s.heap.objs.size + 2) (s.heap.objs.size + 3) .none → IsPair h' (s.heap.objs.size + 2) (.ref s.heap.objs.size) (.ref (s.heap.objs.size + 1)) →
      IsPair h' (s.heap.objs.size + 3) .none .none → h'.IsTupleIter s.heap.objs.size l1 0 → h'.IsTupleIter (s.heap.objs.size + 1) l2 0 → h'.objs.size = s.heap.objs.size + 5 →
      (∀ c o, s.heap.get? c = some o → h'.get? c = some o) → Q (.ref (s.heap.objs.size + 4)) { s with heap := h' }) :
    wpAny (model prog w) A (call (.type "zip") [.ref l1, .ref l2]) Q E s := by
  refine callType_new PySem.F.called_zip (by decide) (PySem.F.typeCall_zip_2 _ _) (PySem.F.newCall_zip_2 _ _) (fun obj => PySem.F.args_object_init_3 obj _ _) PySem.F.entry_zip_new (zip_new_tups l1 l2 xs ys) ⟨hl1, hl2, ?_⟩
  have z1 : (zt1 s.heap l1).objs.size = s.heap.objs.size + 1 := Heap.size_push ..
  have z2 : (zt2 s.heap l1 l2).objs.size = s.heap.objs.size + 2 := by rw [Heap.size_push, z1]
  have z3 : (zt3 s.heap l1 l2).objs.size = s.heap.objs.size + 3 := by rw [Heap.size_push, z2]
  have z4 : (zt4 s.heap l1 l2).objs.size = s.heap.objs.size + 4 := by rw [Heap.size_push, z3]
  have z5 : (zt5 s.heap l1 l2).objs.size = s.heap.objs.size + 5 := by rw [Heap.size_push, z4]
  have up1 : ∀ c o, (zt4 s.heap l1 l2).get? c = some o → (zt5 s.heap l1 l2).get? c = some o := fun c o e => Heap.get?_push_of_some _ e
  have up2 : ∀ c o, (zt3 s.heap l1 l2).get? c = some o → (zt5 s.heap l1 l2).get? c = some o := fun c o e => up1 c o (Heap.get?_push_of_some _ e)
  have up3 : ∀ c o, (zt2 s.heap l1 l2).get? c = some o → (zt5 s.heap l1 l2).get? c = some o := fun c o e => up2 c o (Heap.get?_push_of_some _ e)
  have up4 : ∀ c o, (zt1 s.heap l1).get? c = some o → (zt5 s.heap l1 l2).get? c = some o := fun c o e => up3 c o (Heap.get?_push_of_some _ e)
  have g5 : (zt5 s.heap l1 l2).get? (zt4 s.heap l1 l2).objs.size = some _ := Heap.get?_push_size _ rfl
  have g4 := up1 (zt3 s.heap l1 l2).objs.size _ (Heap.get?_push_size _ rfl)
  have g3 := up2 (zt2 s.heap l1 l2).objs.size _ (Heap.get?_push_size _ rfl)
  have g2 := up3 (zt1 s.heap l1).objs.size _ (Heap.get?_push_size _ rfl)
  have g1 := up4 s.heap.objs.size _ (Heap.get?_push_size _ rfl)
  show _ ∧ _
  rw [z2, z3, z4] at g5
  rw [z1, z2] at g3
  rw [z3] at g4
  rw [z1] at g2
  rw [z4]
  exact ⟨⟨_, g5, rfl⟩, h _ g5 g3 g4 ⟨_, g1, rfl, rfl⟩ ⟨_, g2, rfl, rfl⟩ z5 fun c o x => up4 c o (Heap.get?_push_of_some _ x)⟩

/-! a code's own table -/
theorem Wd.table {s : Shared} {Z R : Fz} (W : Wd s₀ Z R s) {c P : Addr} (hT : s₀.heap.TableAt c P #[]) (hC : s₀.heap.IsCode c P #[]) : ∃ ps, s.heap.TableAt c P ps ∧ s.heap.IsCode c P ps := by
  obtain ⟨⟨o, vs, e1, e2, e3, e4⟩, e5⟩ := hT
  obtain ⟨o', vs', file, tf, flags, tg, inF, text, tt, op, f1, f2, f3, f4, f5, f6, f7, f8, f9, f10, f11⟩ := hC
  have h1 := W.frz _ _ (W.base.2 _ _ e1) (fun q => by rw [q] at e2; cases e2)
  have h1' := W.frz _ _ (W.base.2 _ _ f1) (fun q => by rw [e1] at f1; cases f1; rw [q] at e2; cases e2)
  rcases W.cur _ _ (W.base.2 _ _ e5) with x | ⟨t, e, more, x, y⟩
  · exact ⟨#[], ⟨⟨o, vs, h1, e2, e3, e4⟩, x⟩, ⟨o', vs', file, tf, flags, tg, inF, text, tt, _, h1', f2, f3, f4, f5, f6, f7, x, rfl, f10, f11⟩⟩
  · exact ⟨more, ⟨⟨o, vs, h1, e2, e3, e4⟩, x⟩, ⟨o', vs', file, tf, flags, tg, inF, text, tt, _, h1', f2, f3, f4, f5, f6, f7, x, rfl, y, f11⟩⟩
theorem Wd.grown {s : Shared} {Z R : Fz} (W : Wd s₀ Z R s) {c P : Addr} (hT : s₀.heap.TableAt c P #[]) {h' : Heap} {tk : Nat} (hx : Heap.ExtBut P s.heap h') {ps : Array Value} (ht : h'.TableAt c P ps) (ho : TriplesOk ps.toList) : Wd s₀ Z R { s with heap := h', toks := tk } := by
  have hZ := W.base.2 _ _ hT.2
  refine ⟨W.base, fun a o e => ?_, fun a o e => hx a o (fun q => ?_) (W.rest a o e), W.off, W.os, W.bare⟩
  · by_cases ha : a = P
    · subst ha
      rw [hZ] at e; cases e
      exact .inr ⟨hT.isCodeTable, rfl, ps, ht.2, ho⟩
    · exact (W.cur a o e).keep fun o' e' => hx a o' ha e'
  · subst q
    rw [W.off _ _ e] at hZ; cases hZ
theorem IsCode.triples {h : Heap} {c P : Addr} {ps : Array Value} (x : h.IsCode c P ps) : TriplesOk ps.toList := by
  obtain ⟨o', vs', file, tf, flags, tg, inF, text, tt, op, f1, f2, f3, f4, f5, f6, f7, f8, f9, f10, f11⟩ := x
  exact f10
theorem wp_code {A : Around} {E : Value → Shared → Prop} {s : Shared} {Z R : Fz} {env : Env} {c P : Addr} {pos : Pos} {q : Str} {scope : Scope} {Q : Value → Shared → Prop} (W : Wd s₀ Z R s) (hT : s₀.heap.TableAt c P #[]) (hC : s₀.heap.IsCode c P #[]) (hc : env.code = .ref c)
    (hQ : ∀ code h' tk, Wd s₀ Z R { s with heap := h', toks := tk } → s.heap.objs.size ≤ h'.objs.size → Heap.ExtBut P s.heap h' → Q code { s with heap := h', toks := tk }) : wpAny (model prog w) A (genexprCode env pos q scope) Q E s := by
  obtain ⟨ps, ht, hco⟩ := W.table hT hC
  cases hf : codeAmong pos ps.toList with
  | some cv => exact wpAny_genexprCode_hit hc hco hf (hQ cv s.heap s.toks (W.tok _) (Nat.le_refl _) (Heap.ExtBut.refl _ _))
  | none =>
    refine wpAny_genexprCodeX hc hco ht hf fun c' h' tk hx h1 h2 hco' _ ht' _ => ?_
    exact hQ _ h' tk (W.grown hT hx ht' (IsCode.triples hco')) (Nat.le_trans h1 (Nat.le_of_lt h2)) hx
end Mine
namespace Mine
open PySem PySem.Calls PySem.W PyProof.Rows
variable {prog : Program} {w : World} {s₀ : Shared} {n : Nat} {env : Env} {σ : Sto}

theorem passing_all (n₀ : Nat) : passing (fun _ => true) n₀ 0 = List.range n₀ := by
  unfold passing
  rw [List.drop_zero]
  exact List.filter_eq_self.mpr fun _ _ => rfl
theorem ints_at {Z : Fz} {hs : Str → Int} {vs : List Value} {is : List Int} (h : IsAll hs Z vs (is.map .int)) {i : Nat} {v : Value} (e : vs[i]? = some v) : ∃ t, v = .int (is.getD i 0) t := by
  obtain ⟨d, hd, iv⟩ := h.getV e
  rw [List.getElem?_map] at hd
  obtain ⟨k, hk, rfl⟩ := Option.map_eq_some_iff.mp hd
  cases iv
  exact ⟨_, by rw [List.getD_eq_getElem?_getD, hk]; rfl⟩
def sums (a b : List Int) : List Int := List.zipWith (· + ·) a b

theorem zap (N a b : Nat) (ha : a < N) (hb : b < N) : ZAp (N + 4) (N + 2) (N + 3) N (N + 1) [N, a] [N + 1, b] := by
  have e1 : a ≠ N + 4 := by omega
  have e2 : a ≠ N + 3 := by omega
  have e3 : a ≠ N + 2 := by omega
  have e4 : a ≠ N + 1 := by omega
  have f1 : b ≠ N + 4 := by omega
  have f2 : b ≠ N + 3 := by omega
  have f3 : b ≠ N + 2 := by omega
  have f4 : b ≠ N := by omega
  have g1 : N + 4 ≠ N := by omega
  have g2 : N + 2 ≠ N := by omega
  have g3 : N + 3 ≠ N := by omega
  have g4 : N + 1 ≠ N := by omega
  have g5 : N + 4 ≠ N + 1 := by omega
  have g6 : N + 2 ≠ N + 1 := by omega
  have g7 : N + 3 ≠ N + 1 := by omega
  have g8 : N + 2 ≠ N + 4 := by omega
  have g9 : N + 3 ≠ N + 4 := by omega
  have g0 : N + 2 ≠ N + 3 := by omega
  constructor <;> (try simp only [List.mem_cons, List.not_mem_nil, or_false, not_or, true_or, or_true]) <;> first | exact ⟨by assumption, Ne.symm (by assumption)⟩ | assumption | exact ⟨Ne.symm (by assumption), Ne.symm (by assumption)⟩ | trivial
theorem fp_lt (N M a b : Nat) (ha : a < N) (hb : b < N) (hM : N + 5 ≤ M) : ∀ c ∈ [N + 4, N + 2, N + 3, N, N + 1, a, b], c < M := by
  intro c hc
  simp only [List.mem_cons, List.not_mem_nil, or_false] at hc
  omega
theorem wr_out (N c : Nat) (h : c < N) : c ∉ [N + 4, N + 3, N, N + 1] := by
  simp only [List.mem_cons, List.not_mem_nil, or_false]
  omega
theorem wr_out2 (N M c : Nat) (h : c < N) (hM : N + 5 ≤ M) : c ∉ M :: [N + 4, N + 3, N, N + 1] := by
  simp only [List.mem_cons, List.not_mem_nil, or_false]
  omega

/-- tuple((i + j for i, j in zip(a, b))) -/
theorem ev_tuple_gen {tupf zipf e1 e2 : Expr} {xa xb : Str} {p1 p2 bp pa pb pt pos cpos zpos : Pos} {kt : Nat} {scope : Scope} {as bs : List Int} {c P : Addr} {mg : Str → Option Value} {bm : Addr} {ob : Obj}
    (O : EnvOk env) (hT : s₀.heap.TableAt c P #[]) (hC : s₀.heap.IsCode c P #[]) (hcode : env.code = .ref c) (BM : BMod s₀.heap mainGlobals mg bm ob)
    (hf : Ev prog w s₀ n env σ (eval tupf env) (.ty "tuple")) (hz : Ev prog w s₀ n env σ (eval zipf env) (.ty "zip"))
    (h1 : Ev prog w s₀ n env σ (eval e1 env) (.tup (as.map .int))) (h2 : Ev prog w s₀ n env σ (eval e2 env) (.tup (bs.map .int))) (hlen : as.length = bs.length)
    (hco : scope.isCoroutine = false := by rfl) (hfree : ∀ x ∈ scope.names, x.2 ≠ .free := by decide) (hcell : ∀ y ∈ scope.names, y.2 ≠ .cell := by decide) (h0 : scope.names.lookup (".0" : Str) = some NameKind.local := by rfl)
    (hxa : scope.names.lookup xa = some .local := by rfl) (hxb : scope.names.lookup xb = some .local := by rfl) (hab : xa ≠ xb := by decide) (hkind : scope.kind = .function := by rfl)
    (hda : (xa == ("__debug__" : Str)) = false := by decide) (hdb : (xb == ("__debug__" : Str)) = false := by decide)
    (hev : eval (.Call tupf [.GeneratorExp (.BinOp (.Name xa p1) .Add (.Name xb p2) bp) [⟨.Tuple [.Name xa pa, .Name xb pb] kt pt, .Call zipf [e1, e2] [] zpos, [], 0⟩] scope pos] [] cpos) env =
      (do callWith cpos (← eval tupf env) [] (backTo cpos (starEach [.GeneratorExp (.BinOp (.Name xa p1) .Add (.Name xb p2) bp) [⟨.Tuple [.Name xa pa, .Name xb pb] kt pt, .Call zipf [e1, e2] [] zpos, [], 0⟩] scope pos] env)) (backToKw cpos (keywordEach [] env))) := by rfl)
    (hevz : eval (.Call zipf [e1, e2] [] zpos) env = (do callWith zpos (← eval zipf env) [] (backTo zpos (starEach [e1, e2] env)) (backToKw zpos (keywordEach [] env))) := by rfl)
    (hplz : (starEach [e1, e2] env).any (·.1) = false := by rfl)
    (hz1 : backTo zpos (starEach [e1, e2] env) = (false, eval e1 env) :: backTo zpos (starEach [e2] env) := by rfl) (hz2 : backTo zpos (starEach [e2] env) = (false, eval e2 env) :: backTo zpos (starEach [] env) := by rfl)
    (hs : ∀ x, genFold (.Call zipf [e1, e2] [] zpos) env x = pure x := by intro _; rfl) :
    Ev prog w s₀ n env σ (eval (.Call tupf [.GeneratorExp (.BinOp (.Name xa p1) .Add (.Name xb p2) bp) [⟨.Tuple [.Name xa pa, .Name xb pb] kt pt, .Call zipf [e1, e2] [] zpos, [], 0⟩] scope pos] [] cpos) env) (.tup ((sums as bs).map .int)) := by
  intro A Z R s ok W S
  rw [hev]
  refine wpAny_bind (wpAny_mono (hf A Z R s ok W S) ?_ fun _ _ x => x)
  rintro fv s1 ⟨Z1, l1, W1, i1⟩
  obtain rfl := i1.ty_inv
  have S1 := S.mono l1 (FLe.refl R)
  refine callWith_type (trees_plain (by rfl)) (evalArgs_plain (spliced_cons ?_))
  refine wpAny_GeneratorExp_walksQTD ok.handled hco (closureFor_none hfree) hcell h0 hxa hxb hab hkind (by have := ok.depth; show A.depth < 1000; omega) ?_ hs
  rw [hevz]
  refine wpAny_bind (wpAny_mono (hz A Z1 R s1 ok W1 S1) ?_ fun _ _ x => x)
  rintro zv s1' ⟨Z1', l1', W1', i1'⟩
  obtain rfl := i1'.ty_inv
  show wpAny _ A (callWith zpos (.type "zip") [] (backTo zpos (starEach [e1, e2] env)) []) _ _ s1'
  refine callWith_type (trees_plain hplz) (evl_args (trees_plain hplz) (evl_cons h1 (evl_cons h2 evl_nil hz2) hz1) ok W1' (S1.mono l1' (.refl _)) fun vs s2 Z2 l2 W2 i2 => ?_)
  obtain ⟨_, _, rfl, ia, ib⟩ := i2.two_inv
  obtain ⟨la, us, ma, rfl, ea, za, alla⟩ := ia.tup_inv
  obtain ⟨lb, vs, mb, rfl, eb, zb, allb⟩ := ib.tup_inv
  ·
          have hTa : s2.heap.IsTuple la us.toArray := ⟨_, W2.frz _ _ ea, rfl, _, rfl⟩
          have hTb : s2.heap.IsTuple lb vs.toArray := ⟨_, W2.frz _ _ eb, rfl, _, rfl⟩
          have hla : us.length = as.length := by rw [alla.length, List.length_map]
          have hlb : vs.length = bs.length := by rw [allb.length, List.length_map]
          refine call_zip_tups hTa hTb fun h3 hz3 hTI3 hTO3 hi1 hi2 hsz3 hk3 => ?_
          have W3 := W2.grow (tk := s2.toks) hk3
          refine wpAny_pyIter_zip hz3 ⟨W3.nolim, ?_⟩
          have hZP := W2.base.2 _ _ hT.2
          have hPlt : P < s2.heap.objs.size := (W2.cur _ _ hZP).lt
          refine wp_code W3 hT hC hcode fun code h4 tk4 W4 hsz4 hx4 => ?_
          have hb0 := BM.ns
          have hbo : h4.get? bm = some ob := W4.frz _ _ (W4.base.2 _ _ BM.obj) (fun q => by have := BM.cls; rw [q] at this; cases this)
          refine wpAny_builtinsFor (O.glob ▸ W4.ns BM.ns) BM.name BM.ne hbo BM.cls BM.dict BM.data ?_
          have hlt : la < s2.heap.objs.size := Heap.lt_size (W2.frz _ _ ea)
          have hlt' : lb < s2.heap.objs.size := Heap.lt_size (W2.frz _ _ eb)
          have hne : ∀ b, s2.heap.objs.size ≤ b → b ≠ P := fun b hb => Nat.ne_of_gt (Nat.lt_of_lt_of_le hPlt hb)
          have hsz4' : s2.heap.objs.size + 5 ≤ h4.objs.size := by rw [← hsz3]; exact hsz4
          have D : ZAp (s2.heap.objs.size + 4) (s2.heap.objs.size + 2) (s2.heap.objs.size + 3) s2.heap.objs.size (s2.heap.objs.size + 1) [s2.heap.objs.size, la] [s2.heap.objs.size + 1, lb] := zap _ _ _ hlt hlt'
          have hW : ∀ A' : Around, A'.handled = none → WalksU prog w A' (s2.heap.objs.size + 4) _ _ us.toArray.size _ _ _ := fun A' hh => zipU (prog := prog) (w := w) (A := A') hh D (Nat.ne_of_lt hlt) (Nat.ne_of_lt (Nat.lt_succ_of_lt hlt')) us.toArray vs.toArray (by rw [List.size_toArray, List.size_toArray, hla, hlb, hlen])
          have laP : la ≠ P := fun q => by rw [q, hZP] at ea; cases ea
          have lbP : lb ≠ P := fun q => by rw [q, hZP] at eb; cases eb
          refine ⟨_, _, _, _, _, _, _, fun _ => true, fun i y => ∃ t, y = .int (as.getD i 0 + bs.getD i 0) t, rfl, hW, fun i vals hp => ?_, ?_, ?_, W4.nolim, ?_, ?_, ?_⟩
          · obtain ⟨x, y, _, _, e⟩ := hp; exact ⟨x, y, e⟩
          · have up : ∀ b o, s2.heap.objs.size ≤ b → h3.get? b = some o → h4.get? b = some o := fun b o hb e => hx4 b o (hne b hb) e
            refine ⟨up _ _ (Nat.le_add_right _ _) hz3, up _ _ (Nat.le_add_right _ _) hTI3, ⟨_, _, up _ _ (Nat.le_add_right _ _) hTO3⟩, ⟨?_, ?_⟩, ?_, ?_⟩
            · obtain ⟨o, q1, q2⟩ := hi1; exact ⟨o, up _ _ (Nat.le_refl _) q1, q2⟩
            · obtain ⟨o, q1, q2⟩ := hTa; exact ⟨o, hx4 _ _ laP (hk3 _ _ q1), q2⟩
            · obtain ⟨o, q1, q2⟩ := hi2; exact ⟨o, up _ _ (Nat.le_succ _) q1, q2⟩
            · obtain ⟨o, q1, q2⟩ := hTb; exact ⟨o, hx4 _ _ lbP (hk3 _ _ q1), q2⟩
          · exact fp_lt _ _ _ _ hlt hlt' hsz4'
          · obtain ⟨_, hn, _⟩ := W2.nolim
            exact wr_out _ _ hn.lt
          · intro href hhref
            refine ⟨fun A' E' i va vb t m₂ hA hD hU hP hn hma hmb hkp => wpAny_pure ⟨rfl, t.heap, t.toks, rfl, fun _ _ e => e⟩, fun A' E' i va vb t m₂ hA hD hU hP hpz hn hma hmb hkp => ?_⟩
            obtain ⟨x, y, hx, hy, hv⟩ := hP
            have e1 : va = x := by have := congrArg (fun a : Array Value => a[0]?) hv; simpa using this
            have e2 : vb = y := by have := congrArg (fun a : Array Value => a[1]?) hv; simpa using this
            subst e1; subst e2
            obtain ⟨t1, rfl⟩ := ints_at alla (by simpa using hx)
            obtain ⟨t2, rfl⟩ := ints_at allb (by simpa using hy)
            refine wpAny_BinOp (wpAny_Name (wpAny_loadName_local hkind hxa hn hma ?_) hda)
            refine wpAny_Name (wpAny_loadName_local hkind hxb hn hmb ?_) hdb
            exact wpAny_add_int ⟨⟨_, rfl⟩, t.heap, _, rfl, fun _ _ e => e⟩
          · intro a h5 tk gs hgb ha hsz5 hk5 hWS hGA
            refine spliced_nil ?_
            have f2 := fun b (hb : s2.heap.objs.size ≤ b) => W2.none_of_ge hb
            refine call_tuple_gen hWS.in4_3 (fun i s' st => st.1.typeIs) hGA ?_ List.mem_cons_self (fun s' acc hm hacc => ?_) ?_
            · intro b hb
              show b < h5.objs.size
              rw [hsz5]
              rcases List.mem_cons.mp hb with rfl | hb
              · exact Nat.lt_succ_self _
              · rcases List.mem_cons.mp hb with rfl | hb
                · exact Nat.lt_succ_of_lt ha
                · exact Nat.lt_succ_of_lt (Nat.lt_trans (List.mem_range.mp hb) ha)
            · have hkk : ∀ b o, b < s2.heap.objs.size → h4.get? b = some o → s'.heap.get? b = some o := fun b o hb e => hm.heap b o (by
                exact wr_out2 _ _ _ hb hsz4') (hk5 b o e)
              have W6 : Wd s₀ Z2 R s' := by
                refine ⟨W4.base, fun b o e => (W4.cur b o e).keep fun o' e' => hkk b o' (W2.cur b o e).lt e', fun b o e => hkk b o (Heap.lt_size (W2.rest b o e)) (W4.rest b o e), W4.off, hm.os.trans W4.os, hm.gens.bare (W4.bare.push hgb)⟩
              have hacc2 := hacc.2
              have hacc1 := hacc.1
              rw [passing_all] at hacc2
              rw [passing_all, List.length_range, List.size_toArray] at hacc1
              obtain ⟨l⟩ := acc
              have hll : l.length = us.length := by simpa using hacc1
              have hall : IsAll (hsOf prog w) Z2 l ((sums as bs).map .int) := by
                have key : ∀ (l : List Value) (is : List Int), l.length = is.length → (∀ (j : Nat) (v : Value), l[j]? = some v → ∃ t, v = .int (is.getD j 0) t) → IsAll (hsOf prog w) Z2 l (is.map .int) := by
                  intro l
                  induction l with
                  | nil => intro is h _; cases is with
                    | nil => exact .nil
                    | cons => cases h
                  | cons v l ih => intro is h hj; cases is with
                    | nil => cases h
                    | cons k is =>
                      obtain ⟨t, rfl⟩ := hj 0 v rfl
                      exact .cons (.int _ _) (ih is (by simpa using h) fun j v e => by simpa using hj (j + 1) v (by simpa using e))
                refine key l (sums as bs) (by simp [sums]; omega) fun j v e => ?_
                obtain ⟨i, hi, t, rfl⟩ := hacc2 j v (by simpa using e)
                have hij : i = j := by
                  obtain ⟨q1, q2⟩ := List.getElem?_eq_some_iff.mp hi
                  simpa using q2.symm
                subst hij
                have hlt : i < l.length := (List.getElem?_eq_some_iff.mp e).1
                refine ⟨t, ?_⟩
                have ha' : as[i]? = some as[i] := List.getElem?_eq_getElem (by omega)
                have hb' : bs[i]? = some bs[i] := List.getElem?_eq_getElem (by omega)
                have hq : (sums as bs).getD i 0 = as.getD i 0 + bs.getD i 0 := by
                  simp only [sums, List.getD_eq_getElem?_getD, List.getElem?_zipWith, ha', hb', Option.getD_some]
                rw [hq]
              have hz' : l.length ≤ sizeLine := by omega
              refine Post.mono ((l1.trans l1').trans l2) ?_
              exact newSeq (A := A) (vs := l) (tupO l 0) W6 rfl fun Z' lz e => .tup e hz' (hall.mono lz)
            · rw [passing_all, List.length_range, List.size_toArray]; omega
end Mine
namespace Mine
open PySem PySem.Calls PySem.W PyProof.Rows
variable {prog : Program} {w : World} {s₀ : Shared} {n : Nat}

/-! the text's own defs -/
abbrev theP : Program := PySem.Challenge.pw_ik0005_01
noncomputable def c0S : { p : DefRec × List DefRec // recsOf theP = p.1 :: p.2 } := by
  refine ⟨⟨?_, ?_⟩, ?h⟩
  rotate_left 2
  · conv => lhs; whnf
noncomputable abbrev r0 : DefRec := c0S.1.1
noncomputable abbrev t0 : List DefRec := c0S.1.2
theorem s0 : ∀ d, d = r0 ∨ d ∈ t0 → d ∈ recsOf theP := fun d h => by rw [c0S.2]; exact List.mem_cons.mpr h
noncomputable def c1S : { p : DefRec × List DefRec // t0 = p.1 :: p.2 } := by
  refine ⟨⟨?_, ?_⟩, ?h⟩
  rotate_left 2
  · conv => lhs; whnf
noncomputable abbrev r1 : DefRec := c1S.1.1
noncomputable abbrev t1 : List DefRec := c1S.1.2
theorem s1 : ∀ d, d = r1 ∨ d ∈ t1 → d ∈ recsOf theP := fun d h => s0 d (.inr (by rw [c1S.2]; exact List.mem_cons.mpr h))
noncomputable def c2S : { p : DefRec × List DefRec // t1 = p.1 :: p.2 } := by
  refine ⟨⟨?_, ?_⟩, ?h⟩
  rotate_left 2
  · conv => lhs; whnf
noncomputable abbrev r2 : DefRec := c2S.1.1
noncomputable abbrev t2 : List DefRec := c2S.1.2
theorem s2 : ∀ d, d = r2 ∨ d ∈ t2 → d ∈ recsOf theP := fun d h => s1 d (.inr (by rw [c2S.2]; exact List.mem_cons.mpr h))
noncomputable def c3S : { p : DefRec × List DefRec // t2 = p.1 :: p.2 } := by
  refine ⟨⟨?_, ?_⟩, ?h⟩
  rotate_left 2
  · conv => lhs; whnf
noncomputable abbrev r3 : DefRec := c3S.1.1
noncomputable abbrev t3 : List DefRec := c3S.1.2
theorem s3 : ∀ d, d = r3 ∨ d ∈ t3 → d ∈ recsOf theP := fun d h => s2 d (.inr (by rw [c3S.2]; exact List.mem_cons.mpr h))
noncomputable def c4S : { p : DefRec × List DefRec // t3 = p.1 :: p.2 } := by
  refine ⟨⟨?_, ?_⟩, ?h⟩
  rotate_left 2
  · conv => lhs; whnf
noncomputable abbrev r4 : DefRec := c4S.1.1
noncomputable abbrev t4 : List DefRec := c4S.1.2
theorem s4 : ∀ d, d = r4 ∨ d ∈ t4 → d ∈ recsOf theP := fun d h => s3 d (.inr (by rw [c4S.2]; exact List.mem_cons.mpr h))
noncomputable def c5S : { p : DefRec × List DefRec // t4 = p.1 :: p.2 } := by
  refine ⟨⟨?_, ?_⟩, ?h⟩
  rotate_left 2
  · conv => lhs; whnf
noncomputable abbrev r5 : DefRec := c5S.1.1
noncomputable abbrev t5 : List DefRec := c5S.1.2
theorem s5 : ∀ d, d = r5 ∨ d ∈ t5 → d ∈ recsOf theP := fun d h => s4 d (.inr (by rw [c5S.2]; exact List.mem_cons.mpr h))
noncomputable def c6S : { p : DefRec × List DefRec // t5 = p.1 :: p.2 } := by
  refine ⟨⟨?_, ?_⟩, ?h⟩
  rotate_left 2
  · conv => lhs; whnf
noncomputable abbrev r6 : DefRec := c6S.1.1
noncomputable abbrev t6 : List DefRec := c6S.1.2
theorem s6 : ∀ d, d = r6 ∨ d ∈ t6 → d ∈ recsOf theP := fun d h => s5 d (.inr (by rw [c6S.2]; exact List.mem_cons.mpr h))
noncomputable def c7S : { p : DefRec × List DefRec // t6 = p.1 :: p.2 } := by
  refine ⟨⟨?_, ?_⟩, ?h⟩
  rotate_left 2
  · conv => lhs; whnf
noncomputable abbrev r7 : DefRec := c7S.1.1
noncomputable abbrev t7 : List DefRec := c7S.1.2
theorem s7 : ∀ d, d = r7 ∨ d ∈ t7 → d ∈ recsOf theP := fun d h => s6 d (.inr (by rw [c7S.2]; exact List.mem_cons.mpr h))
noncomputable def c8S : { p : DefRec × List DefRec // t7 = p.1 :: p.2 } := by
  refine ⟨⟨?_, ?_⟩, ?h⟩
  rotate_left 2
  · conv => lhs; whnf
noncomputable abbrev r8 : DefRec := c8S.1.1
noncomputable abbrev t8 : List DefRec := c8S.1.2
theorem s8 : ∀ d, d = r8 ∨ d ∈ t8 → d ∈ recsOf theP := fun d h => s7 d (.inr (by rw [c8S.2]; exact List.mem_cons.mpr h))
noncomputable def c9S : { p : DefRec × List DefRec // t8 = p.1 :: p.2 } := by
  refine ⟨⟨?_, ?_⟩, ?h⟩
  rotate_left 2
  · conv => lhs; whnf
noncomputable abbrev r9 : DefRec := c9S.1.1
noncomputable abbrev t9 : List DefRec := c9S.1.2
theorem s9 : ∀ d, d = r9 ∨ d ∈ t9 → d ∈ recsOf theP := fun d h => s8 d (.inr (by rw [c9S.2]; exact List.mem_cons.mpr h))
noncomputable def c10S : { p : DefRec × List DefRec // t9 = p.1 :: p.2 } := by
  refine ⟨⟨?_, ?_⟩, ?h⟩
  rotate_left 2
  · conv => lhs; whnf
noncomputable abbrev r10 : DefRec := c10S.1.1
noncomputable abbrev t10 : List DefRec := c10S.1.2
theorem s10 : ∀ d, d = r10 ∨ d ∈ t10 → d ∈ recsOf theP := fun d h => s9 d (.inr (by rw [c10S.2]; exact List.mem_cons.mpr h))
noncomputable def c11S : { p : DefRec × List DefRec // t10 = p.1 :: p.2 } := by
  refine ⟨⟨?_, ?_⟩, ?h⟩
  rotate_left 2
  · conv => lhs; whnf
noncomputable abbrev r11 : DefRec := c11S.1.1
noncomputable abbrev t11 : List DefRec := c11S.1.2
theorem s11 : ∀ d, d = r11 ∨ d ∈ t11 → d ∈ recsOf theP := fun d h => s10 d (.inr (by rw [c11S.2]; exact List.mem_cons.mpr h))
noncomputable def c12S : { p : DefRec × List DefRec // t11 = p.1 :: p.2 } := by
  refine ⟨⟨?_, ?_⟩, ?h⟩
  rotate_left 2
  · conv => lhs; whnf
noncomputable abbrev r12 : DefRec := c12S.1.1
noncomputable abbrev t12 : List DefRec := c12S.1.2
theorem s12 : ∀ d, d = r12 ∨ d ∈ t12 → d ∈ recsOf theP := fun d h => s11 d (.inr (by rw [c12S.2]; exact List.mem_cons.mpr h))
noncomputable def c13S : { p : DefRec × List DefRec // t12 = p.1 :: p.2 } := by
  refine ⟨⟨?_, ?_⟩, ?h⟩
  rotate_left 2
  · conv => lhs; whnf
noncomputable abbrev r13 : DefRec := c13S.1.1
noncomputable abbrev t13 : List DefRec := c13S.1.2
theorem s13 : ∀ d, d = r13 ∨ d ∈ t13 → d ∈ recsOf theP := fun d h => s12 d (.inr (by rw [c13S.2]; exact List.mem_cons.mpr h))
noncomputable def c14S : { p : DefRec × List DefRec // t13 = p.1 :: p.2 } := by
  refine ⟨⟨?_, ?_⟩, ?h⟩
  rotate_left 2
  · conv => lhs; whnf
noncomputable abbrev r14 : DefRec := c14S.1.1
noncomputable abbrev t14 : List DefRec := c14S.1.2
theorem s14 : ∀ d, d = r14 ∨ d ∈ t14 → d ∈ recsOf theP := fun d h => s13 d (.inr (by rw [c14S.2]; exact List.mem_cons.mpr h))
noncomputable def c15S : { p : DefRec × List DefRec // t14 = p.1 :: p.2 } := by
  refine ⟨⟨?_, ?_⟩, ?h⟩
  rotate_left 2
  · conv => lhs; whnf
noncomputable abbrev r15 : DefRec := c15S.1.1
noncomputable abbrev t15 : List DefRec := c15S.1.2
theorem s15 : ∀ d, d = r15 ∨ d ∈ t15 → d ∈ recsOf theP := fun d h => s14 d (.inr (by rw [c15S.2]; exact List.mem_cons.mpr h))
noncomputable def c16S : { p : DefRec × List DefRec // t15 = p.1 :: p.2 } := by
  refine ⟨⟨?_, ?_⟩, ?h⟩
  rotate_left 2
  · conv => lhs; whnf
noncomputable abbrev r16 : DefRec := c16S.1.1
noncomputable abbrev t16 : List DefRec := c16S.1.2
theorem s16 : ∀ d, d = r16 ∨ d ∈ t16 → d ∈ recsOf theP := fun d h => s15 d (.inr (by rw [c16S.2]; exact List.mem_cons.mpr h))
noncomputable def c17S : { p : DefRec × List DefRec // t16 = p.1 :: p.2 } := by
  refine ⟨⟨?_, ?_⟩, ?h⟩
  rotate_left 2
  · conv => lhs; whnf
noncomputable abbrev r17 : DefRec := c17S.1.1
noncomputable abbrev t17 : List DefRec := c17S.1.2
theorem s17 : ∀ d, d = r17 ∨ d ∈ t17 → d ∈ recsOf theP := fun d h => s16 d (.inr (by rw [c17S.2]; exact List.mem_cons.mpr h))
noncomputable def c18S : { p : DefRec × List DefRec // t17 = p.1 :: p.2 } := by
  refine ⟨⟨?_, ?_⟩, ?h⟩
  rotate_left 2
  · conv => lhs; whnf
noncomputable abbrev r18 : DefRec := c18S.1.1
noncomputable abbrev t18 : List DefRec := c18S.1.2
theorem s18 : ∀ d, d = r18 ∨ d ∈ t18 → d ∈ recsOf theP := fun d h => s17 d (.inr (by rw [c18S.2]; exact List.mem_cons.mpr h))
noncomputable def c19S : { p : DefRec × List DefRec // t18 = p.1 :: p.2 } := by
  refine ⟨⟨?_, ?_⟩, ?h⟩
  rotate_left 2
  · conv => lhs; whnf
noncomputable abbrev r19 : DefRec := c19S.1.1
noncomputable abbrev t19 : List DefRec := c19S.1.2
theorem s19 : ∀ d, d = r19 ∨ d ∈ t19 → d ∈ recsOf theP := fun d h => s18 d (.inr (by rw [c19S.2]; exact List.mem_cons.mpr h))
noncomputable def c20S : { p : DefRec × List DefRec // t19 = p.1 :: p.2 } := by
  refine ⟨⟨?_, ?_⟩, ?h⟩
  rotate_left 2
  · conv => lhs; whnf
noncomputable abbrev r20 : DefRec := c20S.1.1
noncomputable abbrev t20 : List DefRec := c20S.1.2
theorem s20 : ∀ d, d = r20 ∨ d ∈ t20 → d ∈ recsOf theP := fun d h => s19 d (.inr (by rw [c20S.2]; exact List.mem_cons.mpr h))
noncomputable def c21S : { p : DefRec × List DefRec // t20 = p.1 :: p.2 } := by
  refine ⟨⟨?_, ?_⟩, ?h⟩
  rotate_left 2
  · conv => lhs; whnf
noncomputable abbrev r21 : DefRec := c21S.1.1
noncomputable abbrev t21 : List DefRec := c21S.1.2
theorem s21 : ∀ d, d = r21 ∨ d ∈ t21 → d ∈ recsOf theP := fun d h => s20 d (.inr (by rw [c21S.2]; exact List.mem_cons.mpr h))
noncomputable def c22S : { p : DefRec × List DefRec // t21 = p.1 :: p.2 } := by
  refine ⟨⟨?_, ?_⟩, ?h⟩
  rotate_left 2
  · conv => lhs; whnf
noncomputable abbrev r22 : DefRec := c22S.1.1
noncomputable abbrev t22 : List DefRec := c22S.1.2
theorem s22 : ∀ d, d = r22 ∨ d ∈ t22 → d ∈ recsOf theP := fun d h => s21 d (.inr (by rw [c22S.2]; exact List.mem_cons.mpr h))
/-- the ground: the text's defs, the builtins, the code of add_callers -/
structure Gd (s₀ : Shared) (ad : Str → Addr) : Prop where
  fn : ∀ d ∈ recsOf theP, GlobIs s₀ d.name (.ref (ad d.name)) ∧ FnIs s₀ (ad d.name) d
  bl : ∀ x v, [(Str.ofString "isinstance", Value.builtin "isinstance"), (Str.ofString "tuple", .type "tuple"), (Str.ofString "zip", .type "zip"), (Str.ofString "type", .type "type"), (Str.ofString "issubclass", .builtin "issubclass"), (Str.ofString "str", .type "str"),
    (Str.ofString "bytes", .type "bytes"), (Str.ofString "len", .builtin "len"), (Str.ofString "map", .type "map"), (Str.ofString "min", .builtin "min"), (Str.ofString "max", .builtin "max"), (Str.ofString "enumerate", .type "enumerate"), (Str.ofString "abs", .builtin "abs"),
    (Str.ofString "chr", .builtin "chr"), (Str.ofString "range", .type "range"), (Str.ofString "list", .type "list"), (Str.ofString "sum", .builtin "sum"), (Str.ofString "int", .type "int")].lookup x = some v → BltIs s₀ x v
  code : ∀ d ∈ recsOf theP, ∀ o fd, s₀.heap.get? (ad d.name) = some o → o.data = .func fd → ∃ c P, fd.code = .ref c ∧ s₀.heap.IsCode c P #[] ∧ s₀.heap.TableAt c P #[]
  bm : ∃ mg bm ob, BMod s₀.heap mainGlobals mg bm ob

theorem FnIs.is {a : Addr} {d : DefRec} (h : FnIs s₀ a d) : IsFn s₀ a := by
  obtain ⟨o, pm, code, doc, ho, hd, hc⟩ := h.fn
  exact ⟨o, _, ho, hd⟩
theorem len1 {α : Type} {l : List α} (h : l.length = 1) : ∃ a, l = [a] := by
  match l, h with
  | [a], _ => exact ⟨a, rfl⟩
theorem len2 {α : Type} {l : List α} (h : l.length = 2) : ∃ a b, l = [a, b] := by
  match l, h with
  | [a, b], _ => exact ⟨a, b, rfl⟩
theorem len3 {α : Type} {l : List α} (h : l.length = 3) : ∃ a b c, l = [a, b, c] := by
  match l, h with
  | [a, b, c], _ => exact ⟨a, b, c, rfl⟩

abbrev pty (d : DefRec) : Prop := (∀ x ∈ pnames d, d.scope.names.lookup x = some .local ∨ d.scope.names.lookup x = some .cell) ∧ (pnames d).Nodup ∧ (∀ x ∈ d.scope.names, x.2 ≠ .free) ∧ d.scope.isCoroutine = false ∧ d.scope.isGenerator = false ∧ d.scope.kind = .function
theorem defOk1 {d : DefRec} (p : pty d) (l : (pnames d).length = 1) (b : ∀ pm code doc v, bindArgs (docDef d.name d.params d.body d.scope pm code doc) ⟨[v], []⟩ = pure ((pnames d).zip [v])) : DefOk d 1 :=
  ⟨fun pm code doc vs h => by obtain ⟨v, rfl⟩ := len1 h; exact b _ _ _ _, l, p.1, p.2.1, p.2.2.1, p.2.2.2.1, p.2.2.2.2.1, p.2.2.2.2.2⟩
theorem defOk2 {d : DefRec} (p : pty d) (l : (pnames d).length = 2) (b : ∀ pm code doc v u, bindArgs (docDef d.name d.params d.body d.scope pm code doc) ⟨[v, u], []⟩ = pure ((pnames d).zip [v, u])) : DefOk d 2 :=
  ⟨fun pm code doc vs h => by obtain ⟨v, u, rfl⟩ := len2 h; exact b _ _ _ _ _, l, p.1, p.2.1, p.2.2.1, p.2.2.2.1, p.2.2.2.2.1, p.2.2.2.2.2⟩
theorem defOk3 {d : DefRec} (p : pty d) (l : (pnames d).length = 3) (b : ∀ pm code doc v u t, bindArgs (docDef d.name d.params d.body d.scope pm code doc) ⟨[v, u, t], []⟩ = pure ((pnames d).zip [v, u, t])) : DefOk d 3 :=
  ⟨fun pm code doc vs h => by obtain ⟨v, u, t, rfl⟩ := len3 h; exact b _ _ _ _ _ _, l, p.1, p.2.1, p.2.2.1, p.2.2.2.1, p.2.2.2.2.1, p.2.2.2.2.2⟩
theorem call_def {a : Addr} {d : DefRec} {ds : List D} {r : D} (σ : Sto) (hf : FnIs s₀ a d) (D0 : DefOk d ds.length) (hσ : psto d ds = σ)
    (h : ∀ L code, EnvOk (benv d.scope d.name L a code) → Ex prog w s₀ n (benv d.scope d.name L a code) σ (execs d.body (benv d.scope d.name L a code)) (.ret r)) :
    CallT prog w s₀ (n + 1) (.ref a) ds r := call_fn hf D0 fun L code => hσ ▸ h L code (benv_ok D0.fn)
theorem call_defC {a : Addr} {d : DefRec} {ds : List D} {r : D} (P : Value → Prop) (hP : ∀ o fd, s₀.heap.get? a = some o → o.data = .func fd → P fd.code) (σ : Sto) (hf : FnIs s₀ a d) (D0 : DefOk d ds.length) (hσ : psto d ds = σ)
    (h : ∀ L code, P code → EnvOk (benv d.scope d.name L a code) → Ex prog w s₀ n (benv d.scope d.name L a code) σ (execs d.body (benv d.scope d.name L a code)) (.ret r)) :
    CallT prog w s₀ (n + 1) (.ref a) ds r := call_fnC P hP hf D0 fun L code p => hσ ▸ h L code p (benv_ok D0.fn)
section
variable {env : Env} {σ : Sto} {ad : Str → Addr}
/-- a name of the frame -/
theorem nm {x : Str} {d : D} {pos : Pos} (O : EnvOk env) (h : σ.lookup x = some (.val d) := by rfl) (hd : (x == ("__debug__" : Str)) = false := by decide)
    (hc : (x == ("__classdict__" : Str)) = false := by decide) : Ev prog w s₀ n env σ (eval (.Name x pos) env) d := ev_name O h hd hc
theorem bty {x : Str} {T : String} {pos : Pos} (O : EnvOk env) (G : Gd s₀ ad) (h : BltIs s₀ x (.type T) := by exact G.bl _ _ (by rfl)) (hk : env.kindOf x = some .globalImplicit := by rfl) (hd : (x == ("__debug__" : Str)) = false := by decide) :
    Ev prog w s₀ n env σ (eval (.Name x pos) env) (.ty T) := ev_blt O h (fun _ => .ty _) hk hd
theorem bbi {x : Str} {T : String} {pos : Pos} (O : EnvOk env) (G : Gd s₀ ad) (h : BltIs s₀ x (.builtin T) := by exact G.bl _ _ (by rfl)) (hk : env.kindOf x = some .globalImplicit := by rfl) (hd : (x == ("__debug__" : Str)) = false := by decide) :
    Ev prog w s₀ n env σ (eval (.Name x pos) env) (.bi T) := ev_blt O h (fun _ => .bi _) hk hd
theorem gl {x : Str} {b : Addr} {pos : Pos} (O : EnvOk env) (h : GlobIs s₀ x (.ref b)) (hk : env.kindOf x = some .globalImplicit := by rfl) (hd : (x == ("__debug__" : Str)) = false := by decide) :
    Ev prog w s₀ n env σ (eval (.Name x pos) env) (.fn b) := ev_glob O h hk hd
end
theorem f1 {ad : Str → Addr} (G : Gd s₀ ad) : FnIs s₀ (ad r1.name) r1 := (G.fn _ (s1 _ (.inl rfl))).2
theorem g1 {ad : Str → Addr} (G : Gd s₀ ad) : GlobIs s₀ r1.name (.ref (ad r1.name)) := (G.fn _ (s1 _ (.inl rfl))).1
theorem f2 {ad : Str → Addr} (G : Gd s₀ ad) : FnIs s₀ (ad r2.name) r2 := (G.fn _ (s2 _ (.inl rfl))).2
theorem g2 {ad : Str → Addr} (G : Gd s₀ ad) : GlobIs s₀ r2.name (.ref (ad r2.name)) := (G.fn _ (s2 _ (.inl rfl))).1
theorem f3 {ad : Str → Addr} (G : Gd s₀ ad) : FnIs s₀ (ad r3.name) r3 := (G.fn _ (s3 _ (.inl rfl))).2
theorem g3 {ad : Str → Addr} (G : Gd s₀ ad) : GlobIs s₀ r3.name (.ref (ad r3.name)) := (G.fn _ (s3 _ (.inl rfl))).1
theorem f6 {ad : Str → Addr} (G : Gd s₀ ad) : FnIs s₀ (ad r6.name) r6 := (G.fn _ (s6 _ (.inl rfl))).2
theorem g6 {ad : Str → Addr} (G : Gd s₀ ad) : GlobIs s₀ r6.name (.ref (ad r6.name)) := (G.fn _ (s6 _ (.inl rfl))).1
theorem f8 {ad : Str → Addr} (G : Gd s₀ ad) : FnIs s₀ (ad r8.name) r8 := (G.fn _ (s8 _ (.inl rfl))).2
theorem g8 {ad : Str → Addr} (G : Gd s₀ ad) : GlobIs s₀ r8.name (.ref (ad r8.name)) := (G.fn _ (s8 _ (.inl rfl))).1
theorem f9 {ad : Str → Addr} (G : Gd s₀ ad) : FnIs s₀ (ad r9.name) r9 := (G.fn _ (s9 _ (.inl rfl))).2
theorem g9 {ad : Str → Addr} (G : Gd s₀ ad) : GlobIs s₀ r9.name (.ref (ad r9.name)) := (G.fn _ (s9 _ (.inl rfl))).1
theorem f10 {ad : Str → Addr} (G : Gd s₀ ad) : FnIs s₀ (ad r10.name) r10 := (G.fn _ (s10 _ (.inl rfl))).2
theorem g10 {ad : Str → Addr} (G : Gd s₀ ad) : GlobIs s₀ r10.name (.ref (ad r10.name)) := (G.fn _ (s10 _ (.inl rfl))).1
theorem f11 {ad : Str → Addr} (G : Gd s₀ ad) : FnIs s₀ (ad r11.name) r11 := (G.fn _ (s11 _ (.inl rfl))).2
theorem g11 {ad : Str → Addr} (G : Gd s₀ ad) : GlobIs s₀ r11.name (.ref (ad r11.name)) := (G.fn _ (s11 _ (.inl rfl))).1
theorem f12 {ad : Str → Addr} (G : Gd s₀ ad) : FnIs s₀ (ad r12.name) r12 := (G.fn _ (s12 _ (.inl rfl))).2
theorem g12 {ad : Str → Addr} (G : Gd s₀ ad) : GlobIs s₀ r12.name (.ref (ad r12.name)) := (G.fn _ (s12 _ (.inl rfl))).1
theorem f13 {ad : Str → Addr} (G : Gd s₀ ad) : FnIs s₀ (ad r13.name) r13 := (G.fn _ (s13 _ (.inl rfl))).2
theorem g13 {ad : Str → Addr} (G : Gd s₀ ad) : GlobIs s₀ r13.name (.ref (ad r13.name)) := (G.fn _ (s13 _ (.inl rfl))).1
theorem f14 {ad : Str → Addr} (G : Gd s₀ ad) : FnIs s₀ (ad r14.name) r14 := (G.fn _ (s14 _ (.inl rfl))).2
theorem g14 {ad : Str → Addr} (G : Gd s₀ ad) : GlobIs s₀ r14.name (.ref (ad r14.name)) := (G.fn _ (s14 _ (.inl rfl))).1
theorem f15 {ad : Str → Addr} (G : Gd s₀ ad) : FnIs s₀ (ad r15.name) r15 := (G.fn _ (s15 _ (.inl rfl))).2
theorem g15 {ad : Str → Addr} (G : Gd s₀ ad) : GlobIs s₀ r15.name (.ref (ad r15.name)) := (G.fn _ (s15 _ (.inl rfl))).1
theorem f16 {ad : Str → Addr} (G : Gd s₀ ad) : FnIs s₀ (ad r16.name) r16 := (G.fn _ (s16 _ (.inl rfl))).2
theorem g16 {ad : Str → Addr} (G : Gd s₀ ad) : GlobIs s₀ r16.name (.ref (ad r16.name)) := (G.fn _ (s16 _ (.inl rfl))).1
theorem f17 {ad : Str → Addr} (G : Gd s₀ ad) : FnIs s₀ (ad r17.name) r17 := (G.fn _ (s17 _ (.inl rfl))).2
theorem g17 {ad : Str → Addr} (G : Gd s₀ ad) : GlobIs s₀ r17.name (.ref (ad r17.name)) := (G.fn _ (s17 _ (.inl rfl))).1
theorem f18 {ad : Str → Addr} (G : Gd s₀ ad) : FnIs s₀ (ad r18.name) r18 := (G.fn _ (s18 _ (.inl rfl))).2
theorem g18 {ad : Str → Addr} (G : Gd s₀ ad) : GlobIs s₀ r18.name (.ref (ad r18.name)) := (G.fn _ (s18 _ (.inl rfl))).1
theorem f19 {ad : Str → Addr} (G : Gd s₀ ad) : FnIs s₀ (ad r19.name) r19 := (G.fn _ (s19 _ (.inl rfl))).2
theorem g19 {ad : Str → Addr} (G : Gd s₀ ad) : GlobIs s₀ r19.name (.ref (ad r19.name)) := (G.fn _ (s19 _ (.inl rfl))).1
theorem f20 {ad : Str → Addr} (G : Gd s₀ ad) : FnIs s₀ (ad r20.name) r20 := (G.fn _ (s20 _ (.inl rfl))).2
theorem g20 {ad : Str → Addr} (G : Gd s₀ ad) : GlobIs s₀ r20.name (.ref (ad r20.name)) := (G.fn _ (s20 _ (.inl rfl))).1
theorem f21 {ad : Str → Addr} (G : Gd s₀ ad) : FnIs s₀ (ad r21.name) r21 := (G.fn _ (s21 _ (.inl rfl))).2
theorem g21 {ad : Str → Addr} (G : Gd s₀ ad) : GlobIs s₀ r21.name (.ref (ad r21.name)) := (G.fn _ (s21 _ (.inl rfl))).1
theorem f22 {ad : Str → Addr} (G : Gd s₀ ad) : FnIs s₀ (ad r22.name) r22 := (G.fn _ (s22 _ (.inl rfl))).2
theorem g22 {ad : Str → Addr} (G : Gd s₀ ad) : GlobIs s₀ r22.name (.ref (ad r22.name)) := (G.fn _ (s22 _ (.inl rfl))).1
end Mine
namespace Mine
open PySem PySem.Calls PySem.W PyProof.Rows
variable {prog : Program} {w : World} {s₀ : Shared} {n : Nat} {ad : Str → Addr}

theorem c_getsep (G : Gd s₀ ad) (x : Str) : CallT prog w s₀ (n + 1) (.ref (ad r8.name)) [.str x] (.str (Str.ofString "/")) := by
  refine call_def [(Str.ofString "path", .val (.str x))] (f8 G) (defOk1 (by decide) rfl fun _ _ _ _ => by with_unfolding_all rfl) rfl fun L code O => ?_
  conv => arg 7; arg 1; whnf
  refine ex_stop (ex_if_false (evB_val (by rfl) (ev_call_bi (bbi O G) (evl_cons (nm O) (evl_cons (bty O G) evl_nil)) ct_isi_str_bytes) tru_bool) ?_)
  exact ex_stop (ex_return ev_str)
theorem c_fspath (G : Gd s₀ ad) (x : Str) : CallT prog w s₀ (n + 1) (.ref (ad r6.name)) [.str x] (.str x) := by
  refine call_def [(Str.ofString "path", .val (.str x))] (f6 G) (defOk1 (by decide) rfl fun _ _ _ _ => by with_unfolding_all rfl) rfl fun L code O => ?_
  conv => arg 7; arg 1; whnf
  refine ex_cons (ex_assign (ev_call_ty (bty O G) (evl_cons (nm O) evl_nil) ct_type_str) (asg_name O)) ?_
  refine ex_stop (ex_if_true (evB_val (by rfl) (ev_call_bi (bbi O G) (evl_cons (nm O) (evl_cons (ev_tuple (evl_cons (bty O G) (evl_cons (bty O G) evl_nil))) evl_nil)) ct_issub) tru_bool) ?_)
  exact ex_stop (ex_return (nm O))
end Mine
namespace Mine
open PySem PySem.Calls PySem.W PyProof.Rows
variable {prog : Program} {w : World} {s₀ : Shared} {n : Nat} {ad : Str → Addr} {env : Env} {σ : Sto}

/-! lists of pairs -/
def aget {β : Type} (m : List (Str × β)) (k : Str) : Option β := (m.find? fun p => p.1 = k).map (·.2)
def aset {β : Type} (m : List (Str × β)) (k : Str) (v : β) : List (Str × β) := if m.any (fun p => p.1 = k) then m.map (fun p => if p.1 = k then (p.1, v) else p) else m ++ [(k, v)]
def enc {β : Type} (f : β → D) (m : List (Str × β)) : List (Str × D) := m.map fun p => (p.1, f p.2)
theorem dget_enc {β : Type} {f : β → D} {m : List (Str × β)} {k : Str} : dget (enc f m) k = (aget m k).map f := by
  unfold dget enc aget
  rw [List.find?_map]
  simp [Function.comp_def]
theorem dset_enc {β : Type} {f : β → D} {m : List (Str × β)} {k : Str} {v : β} : dset (enc f m) k (f v) = enc f (aset m k v) := by
  unfold dset enc aset
  rw [List.any_map]
  simp only [Function.comp_def]
  split
  · rw [List.map_map, List.map_map]
    refine List.map_congr_left fun p _ => ?_
    simp only [Function.comp_def]
    split <;> rfl
  · simp
theorem enc_len {β : Type} {f : β → D} {m : List (Str × β)} : (enc f m).length = m.length := List.length_map ..
theorem aset_len {β : Type} {m : List (Str × β)} {k : Str} {v : β} : (aset m k v).length ≤ m.length + 1 := by unfold aset; split <;> simp

structure V4 where
  (a b c d : Int)
def vadd (x y : V4) : V4 := ⟨x.a + y.a, x.b + y.b, x.c + y.c, x.d + y.d⟩
/-- a count: a whole number, or four of them -/
def cD : Bool → V4 → D
  | true, v => .int v.a
  | false, v => .tup ([v.a, v.b, v.c, v.d].map .int)
abbrev Cs := List (Str × V4)
def add1 (m : Cs) (p : Str × V4) : Cs := aset m p.1 (match aget m p.1 with | some u => vadd u p.2 | none => p.2)
def addC (t s : Cs) : Cs := s.foldl add1 (t.foldl (fun m p => aset m p.1 p.2) [])
theorem add1_len {m : Cs} {p : Str × V4} : (add1 m p).length ≤ m.length + 1 := aset_len

/-! thawing -/
inductive ThL (σ : Sto) (x : Str) (d : D) : Sto → Prop
  | nil : ThL σ x d []
  | self {τ : Sto} : ThL σ x d τ → ThL σ x d ((x, .val d) :: τ)
  | cons {τ : Sto} {y : Str} {d' : D} : σ.lookup y = some (.val d') → ThL σ x d τ → ThL σ x d ((y, .val d') :: τ)
theorem ThL.all {x : Str} {d : D} {τ : Sto} (h : ThL σ x d τ) : ∀ y lv, τ.lookup y = some lv → (y = x ∧ lv = .val d) ∨ (∃ d', lv = .val d' ∧ σ.lookup y = some (.val d')) := by
  induction h with
  | nil => intro y lv e; cases e
  | self _ ih =>
    intro y lv e
    rw [List.lookup_cons] at e
    by_cases hy : y = x
    · subst hy; simp at e; exact .inl ⟨rfl, e.symm⟩
    · have : (y == x) = false := beq_eq_false_iff_ne.mpr hy
      rw [this] at e
      exact ih y lv e
  | @cons τ z d' hz _ ih =>
    intro y lv e
    rw [List.lookup_cons] at e
    by_cases hy : y = z
    · subst hy; simp at e; exact .inr ⟨d', e.symm, hz⟩
    · have : (y == z) = false := beq_eq_false_iff_ne.mpr hy
      rw [this] at e
      exact ih y lv e
/-- weakening to a shown store -/
inductive SubL (σ : Sto) : Sto → Prop
  | nil : SubL σ []
  | cons {τ : Sto} {y : Str} {lv : LV} : σ.lookup y = some lv → SubL σ τ → SubL σ ((y, lv) :: τ)
theorem SubL.all {τ : Sto} (h : SubL σ τ) : ∀ y lv, τ.lookup y = some lv → σ.lookup y = some lv := by
  induction h with
  | nil => intro y lv e; cases e
  | @cons τ z l' hz _ ih =>
    intro y lv e
    rw [List.lookup_cons] at e
    by_cases hy : y = z
    · subst hy; simp at e; rw [← e]; exact hz
    · have : (y == z) = false := beq_eq_false_iff_ne.mpr hy
      rw [this] at e
      exact ih y lv e

/-! a loop that goes through -/
theorem forT_fold {S α : Type} {target : Expr} {body : List Stmt} (st : S → Sto) (step : S → α → S) (f : α → D) (Inv : S → List α → Prop)
    (hb : ∀ s x rest, Inv s (x :: rest) → Inv (step s x) rest ∧ ∃ σ1, Asg prog w s₀ n env (st s) (assign target env) (f x) σ1 ∧
      ∃ σ2, (Ex prog w s₀ n env σ1 (execs body env) (.next σ2) ∨ Ex prog w s₀ n env σ1 (execs body env) (.cont σ2)) ∧ ∀ y lv, (st (step s x)).lookup y = some lv → σ2.lookup y = some lv) :
    ∀ (items : List α) (s : S), Inv s items → ForT prog w s₀ n env target body (items.map f) (st s) (.next (st (items.foldl step s))) := by
  intro items
  induction items with
  | nil => intro s _; rfl
  | cons x rest ih =>
    intro s hI
    obtain ⟨hI', σ1, ha, σ2, he, hw⟩ := hb s x rest hI
    exact ⟨σ1, ha, .inl ⟨σ2, st (step s x), he, hw, ih _ hI'⟩⟩
theorem ex_for_fold {S α : Type} {target iter : Expr} {body : List Stmt} {pos : Pos} {src : D} {items : List D} (st : S → Sto) (step : S → α → S) (f : α → D) (Inv : S → List α → Prop) (xs : List α) (s0 : S)
    (hi : Ev prog w s₀ n env σ (eval iter env) src) (hs : Src prog w s₀ n target src items) (hit : items = xs.map f) (hσ : st s0 = σ) (h0 : Inv s0 xs)
    (hb : ∀ s x rest, Inv s (x :: rest) → Inv (step s x) rest ∧ ∃ σ1, Asg prog w s₀ n env (st s) (assign target env) (f x) σ1 ∧
      ∃ σ2, (Ex prog w s₀ n env σ1 (execs body env) (.next σ2) ∨ Ex prog w s₀ n env σ1 (execs body env) (.cont σ2)) ∧ ∀ y lv, (st (step s x)).lookup y = some lv → σ2.lookup y = some lv)
    (hfs : ∀ x, foldedSetIterable iter env x = pure x := by intro _; rfl) : Ex prog w s₀ n env σ (exec (.For target iter body [] pos) env) (.next (st (xs.foldl step s0))) := by
  subst hσ hit
  exact ex_for hi hs (forT_fold st step f Inv hb xs s0 h0) hfs
theorem ex_forE_fold {S α : Type} {target iter : Expr} {body : List Stmt} {pos : Pos} {items : List D} (st : S → Sto) (step : S → α → S) (f : α → D) (Inv : S → List α → Prop) (xs : List α) (s0 : S)
    (hi : SrcE prog w s₀ n env σ target iter items) (hit : items = xs.map f) (hσ : st s0 = σ) (h0 : Inv s0 xs)
    (hb : ∀ s x rest, Inv s (x :: rest) → Inv (step s x) rest ∧ ∃ σ1, Asg prog w s₀ n env (st s) (assign target env) (f x) σ1 ∧
      ∃ σ2, (Ex prog w s₀ n env σ1 (execs body env) (.next σ2) ∨ Ex prog w s₀ n env σ1 (execs body env) (.cont σ2)) ∧ ∀ y lv, (st (step s x)).lookup y = some lv → σ2.lookup y = some lv)
    (hfs : ∀ x, foldedSetIterable iter env x = pure x := by intro _; rfl) : Ex prog w s₀ n env σ (exec (.For target iter body [] pos) env) (.next (st (xs.foldl step s0))) := by
  subst hσ hit
  exact ex_forE hi (forT_fold st step f Inv hb xs s0 h0) hfs
end Mine
namespace Mine
open PySem PySem.Calls PySem.W PyProof.Rows
variable {prog : Program} {w : World} {s₀ : Shared} {n : Nat} {ad : Str → Addr} {env : Env} {σ : Sto}

abbrev kD (b : Bool) (m : Cs) : D := .dct (enc (cD b) m)
theorem items_enc {β : Type} {f : β → D} {m : List (Str × β)} : ((enc f m).map fun kd => D.tup [.str kd.1, kd.2]) = m.map fun p => D.tup [.str p.1, f p.2] := by
  unfold enc; rw [List.map_map]; rfl

theorem c_count (G : Gd s₀ ad) (m : Cs) : CallT prog w s₀ (n + 1) (.ref (ad r3.name)) [kD true m] (.int (m.foldl (fun i p => i + p.2.a) 0)) := by
  refine call_def [(Str.ofString "callers", .val (kD true m))] (f3 G) (defOk1 (by decide) rfl fun _ _ _ _ => by with_unfolding_all rfl) rfl fun L code O => ?_
  conv => arg 7; arg 1; whnf
  refine ex_cons (ex_assign ev_int (asg_name O)) ?_
  refine ex_cons (ex_for_fold (fun i : Int => [(Str.ofString "callers", .val (kD true m)), (Str.ofString "nc", .val (.int i))]) (fun i p => i + p.2.a) (fun p => D.int p.2.a) (fun _ _ => True) m 0
    (ev_meth mk_values (nm O) (by rfl) evl_nil ct_values) src_vls (by unfold enc; rw [List.map_map]; rfl) rfl trivial fun i p rest _ => ⟨trivial, _, asg_name O, _, .inl (ex_cons (ex_aug_name O rfl (nm O) op_iadd_int) ex_nil), ?_⟩) ?_
  · exact SubL.all (.cons rfl (.cons rfl .nil))
  · exact ex_stop (ex_return (nm O))
theorem c_addcallers (G : Gd s₀ ad) (b : Bool) (t s : Cs) (hz : t.length + s.length ≤ 100000) : CallT prog w s₀ (n + 1) (.ref (ad r2.name)) [kD b t, kD b s] (kD b (addC t s)) := by
  refine call_defC (fun code => ∃ c P, code = .ref c ∧ s₀.heap.IsCode c P #[] ∧ s₀.heap.TableAt c P #[]) (G.code _ (s2 _ (.inl rfl))) [(Str.ofString "target", .val (kD b t)), (Str.ofString "source", .val (kD b s))] (f2 G)
    (defOk2 (by decide) rfl fun _ _ _ _ _ => by with_unfolding_all rfl) rfl fun L code hcode O => ?_
  conv => arg 7; arg 1; whnf
  refine ex_cons (ex_new_dict O) ?_
  let st0 : Cs → Sto := fun m => [(Str.ofString "target", .val (kD b t)), (Str.ofString "source", .val (kD b s)), (Str.ofString "new_callers", .own (kD b m))]
  refine ex_cons (ex_forE_fold st0 (fun m p => aset m p.1 p.2) (fun p => D.tup [.str p.1, cD b p.2]) (fun m rest => m.length + rest.length + s.length ≤ 100000) t []
    (srcE_items (ev_meth mk_items (nm O) (by rfl) evl_nil ct_items)) items_enc rfl (by simpa using hz) fun m p rest hI => ⟨?_, _, asg_tuple (asgl_cons (asg_name O) (asgl_cons (asg_name O) asgl_nil)), _, .inl (ex_cons (ex_dset O rfl (nm O) (nm O) ?_) ex_nil), ?_⟩) ?_
  · have := @aset_len _ m p.1 p.2
    simp only [List.length_cons] at hI
    omega
  · rw [enc_len, sizeLine_eq]; simp only [List.length_cons] at hI; omega
  · rw [dset_enc]
    exact SubL.all (.cons rfl (.cons rfl (.cons rfl .nil)))
  have hlen : ∀ (t m : Cs), (t.foldl (fun m p => aset m p.1 p.2) m).length ≤ m.length + t.length := by
    intro t
    induction t with
    | nil => intro m; exact Nat.le_refl _
    | cons p t ih =>
      intro m
      have h1 := ih (aset m p.1 p.2)
      have h2 := @aset_len _ m p.1 p.2
      rw [List.foldl_cons, List.length_cons]
      omega
  refine ex_cons (ex_forE_fold st0 add1 (fun p => D.tup [.str p.1, cD b p.2]) (fun m rest => m.length + rest.length ≤ 100000) s (t.foldl (fun m p => aset m p.1 p.2) [])
    (srcE_items (ev_meth mk_items (nm O) (by rfl) evl_nil ct_items)) items_enc rfl (Nat.le_trans (Nat.add_le_add_right (hlen t []) _) (by simpa using hz)) fun m p rest hI => ⟨?_, _, asg_tuple (asgl_cons (asg_name O) (asgl_cons (asg_name O) asgl_nil)),
      st0 (add1 m p) ++ [(Str.ofString "func", .val (.str p.1)), (Str.ofString "caller", .val (cD b p.2))], .inl (ex_cons ?_ ex_nil), ?_⟩) ?_
  · have := @add1_len m p
    simp only [List.length_cons] at hI
    omega
  · have hm : (enc (cD b) m).length < sizeLine := by rw [enc_len, sizeLine_eq]; simp only [List.length_cons] at hI; omega
    cases hg : aget m p.1 with
    | none =>
      refine ex_if_false (evB_thaw (x := Str.ofString "new_callers") (d := kD b m) rfl (ThL.all (.cons (y := Str.ofString "func") (d' := .str p.1) rfl (.self .nil))) (evB_compare (nm O) (nm O) (op_in_dct (by rw [dget_enc, hg]; rfl)))) ?_
      have ha : add1 m p = aset m p.1 p.2 := by unfold add1; rw [hg]
      rw [ha]
      refine ex_cons (ex_dset O rfl (nm O) (nm O) hm) ?_
      rw [dset_enc]
      exact ex_nil
    | some u =>
      have ha : add1 m p = aset m p.1 (vadd u p.2) := by unfold add1; rw [hg]
      rw [ha]
      refine ex_if_true (evB_thaw (x := Str.ofString "new_callers") (d := kD b m) rfl (ThL.all (.cons (y := Str.ofString "func") (d' := .str p.1) rfl (.self .nil))) (evB_compare (nm O) (nm O) (op_in_dct (by rw [dget_enc, hg]; rfl)))) ?_
      have hg' : dget (enc (cD b) m) p.1 = some (cD b u) := by rw [dget_enc, hg]; rfl
      refine ex_cons ?_ ex_nil
      cases b with
      | true =>
        refine ex_if_false (evB_val (by rfl) (ev_call_bi (bbi O G) (evl_cons (nm O) (evl_cons (bty O G) evl_nil)) ct_isi_int_tuple) tru_bool) ?_
        refine ex_cons (ex_daug O rfl (nm O) hg' (nm O) op_iadd_int hm) ?_
        rw [show D.int (u.a + p.2.a) = cD true (vadd u p.2) from rfl, dset_enc]
        exact ex_nil
      | false =>
        refine ex_if_true (evB_val (by rfl) (ev_call_bi (bbi O G) (evl_cons (nm O) (evl_cons (bty O G) evl_nil)) ct_isi_tup_tuple) tru_bool) ?_
        obtain ⟨c, P, hc, hC, hT⟩ := hcode
        obtain ⟨mg, bm, ob, BM⟩ := G.bm
        refine ex_cons (ex_dset O rfl (ev_tuple_gen (as := [p.2.a, p.2.b, p.2.c, p.2.d]) (bs := [u.a, u.b, u.c, u.d]) O hT hC hc BM (bty O G) (bty O G) (nm O) (ev_own_item O rfl (nm O) hg') rfl) (nm O) hm) ?_
        have hs : (sums [p.2.a, p.2.b, p.2.c, p.2.d] [u.a, u.b, u.c, u.d]) = [(vadd u p.2).a, (vadd u p.2).b, (vadd u p.2).c, (vadd u p.2).d] := by
          simp [sums, vadd, Int.add_comm]
        rw [hs, show D.tup ([(vadd u p.2).a, (vadd u p.2).b, (vadd u p.2).c, (vadd u p.2).d].map D.int) = cD false (vadd u p.2) from rfl, dset_enc]
        exact ex_nil
  · exact SubL.all (.cons rfl (.cons rfl (.cons rfl .nil)))
  · exact ex_freeze (x := Str.ofString "new_callers") (d := kD b (addC t s)) rfl (ex_stop (ex_return (nm O)))

/-- a row of the table: four figures, the callers -/
def rD (b : Bool) (v : V4) (m : Cs) : D := .tup [.int v.a, .int v.b, .int v.c, .int v.d, kD b m]
theorem c_addstats (G : Gd s₀ ad) (b : Bool) (u v : V4) (t s : Cs) (hz : t.length + s.length ≤ 100000) : CallT prog w s₀ (n + 2) (.ref (ad r1.name)) [rD b u t, rD b v s] (rD b (vadd v u) (addC t s)) := by
  refine call_def [(Str.ofString "target", .val (rD b u t)), (Str.ofString "source", .val (rD b v s))] (f1 G) (defOk2 (by decide) rfl fun _ _ _ _ _ => by with_unfolding_all rfl) rfl fun L code O => ?_
  conv => arg 7; arg 1; whnf
  refine ex_cons (ex_assign (nm O) (asg_tuple (asgl_cons (asg_name O) (asgl_cons (asg_name O) (asgl_cons (asg_name O) (asgl_cons (asg_name O) (asgl_cons (asg_name O) asgl_nil))))))) ?_
  refine ex_cons (ex_assign (nm O) (asg_tuple (asgl_cons (asg_name O) (asgl_cons (asg_name O) (asgl_cons (asg_name O) (asgl_cons (asg_name O) (asgl_cons (asg_name O) asgl_nil))))))) ?_
  refine ex_stop (ex_return (ev_tuple (evl_cons (ev_binop (nm O) (nm O) op_add_int) (evl_cons (ev_binop (nm O) (nm O) op_add_int) (evl_cons (ev_binop (nm O) (nm O) op_add_int) (evl_cons (ev_binop (nm O) (nm O) op_add_int)
    (evl_cons (ev_call_fn (gl O (g2 G)) (evl_cons (nm O) (evl_cons (nm O) evl_nil)) (f2 G).is (c_addcallers G b t s hz)) evl_nil))))) (by show 5 ≤ sizeLine; decide)))
end Mine
namespace Mine
open PySem PySem.Calls PySem.W PyProof.Rows
variable {prog : Program} {w : World} {s₀ : Shared} {n : Nat} {ad : Str → Addr} {env : Env} {σ : Sto}

/-- the call of a def with a star name, at two arguments -/
theorem call_star {a : Addr} {d : DefRec} {x1 x2 : Str} {d1 d2 r : D} (hf : FnIs s₀ a d)
    (hb : ∀ pm code doc v u, bindArgs (docDef d.name d.params d.body d.scope pm code doc) ⟨[v, u], []⟩ = (do let t ← newTuple [u]; pure [(x1, v), (x2, t)]))
    (hne : [x1, x2].Nodup) (hk : ∀ x ∈ [x1, x2], d.scope.names.lookup x = some .local ∨ d.scope.names.lookup x = some .cell)
    (free : ∀ x ∈ d.scope.names, x.2 ≠ .free) (co : d.scope.isCoroutine = false) (gen : d.scope.isGenerator = false) (fn : d.scope.kind = .function)
    (h : ∀ L code, EnvOk (benv d.scope d.name L a code) → Ex prog w s₀ n (benv d.scope d.name L a code) [(x1, .val d1), (x2, .val (.tup [d2]))] (execs d.body (benv d.scope d.name L a code)) (.ret r)) :
    CallT prog w s₀ (n + 1) (.ref a) [d1, d2] r := by
  intro A Z R s vs ok W i
  obtain ⟨o, pm, code, doc, ho, hd, hcd⟩ := hf.fn
  obtain ⟨v, u, rfl⟩ := len2 (l := vs) i.length
  cases i with
  | cons i1 i2 =>
    refine wpAny_call ?_
    refine codeAny_call_function (by have := ok.depth; show A.depth < 1000; omega) (W.keep0 _ _ ho (fun q => by rw [q] at hd; cases hd)) hd co gen rfl (W.codeRec hcd) ?_
    rw [hb]
    refine wpAny_bind (wpAny_mono (new_tup (A := A.in1) (ds := [d2]) W i2 (by show 1 ≤ sizeLine; decide)) ?_ fun _ _ x => x.elim)
    rintro tv s1 ⟨Z1, l1, W1, it⟩
    refine wpAny_pure ?_
    refine wpAny_newFunctionEnv_cells fn (fun x hx => ?_) fun env he s₁ X => ?_
    · have hx' : x.1 ∈ [x1, x2] := by
        simp only [List.mem_cons, List.not_mem_nil, or_false] at hx ⊢
        rcases hx with rfl | rfl
        · exact .inl rfl
        · exact .inr rfl
      rcases hk _ hx' with k | k
      · exact .inl k
      · exact .inr ⟨k, cellsFrom_some _ _ [] (.inl k)⟩
    · subst he
      refine ⟨W1.nolim.keeps X.toInCall.keep, codeAny_func ?_⟩
      have i1' := i1.mono l1
      obtain ⟨Y, W2, P2⟩ := entered (prog := prog) (w := w) (A := A) (σ := [(x1, .val d1), (x2, .val (.tup [d2]))]) (env := benv d.scope d.name s1.heap.objs.size a code) W1 rfl rfl free X (by simpa using hne)
        (fun b hb => hk _ (by
          simp only [List.mem_cons, List.not_mem_nil, or_false] at hb ⊢
          rcases hb with rfl | rfl
          · exact .inl rfl
          · exact .inr rfl)) (fun y lv e => by
          rw [List.lookup_cons] at e
          by_cases hy : y = x1
          · subst hy
            simp at e
            exact ⟨v, d1, e.symm, by simp, i1'⟩
          · have : (y == x1) = false := beq_eq_false_iff_ne.mpr hy
            rw [this, List.lookup_cons] at e
            by_cases hy2 : y = x2
            · subst hy2
              simp at e
              exact ⟨tv, _, e.symm, by simp, it⟩
            · have : (y == x2) = false := beq_eq_false_iff_ne.mpr hy2
              rw [this] at e
              cases e)
      refine wpAny_mono (h s1.heap.objs.size code (benv_ok fn) (A.deeper (benv d.scope d.name s1.heap.objs.size a code)) Z1 R Y s₁ ?_ W2 P2) ?_ (fun _ _ x => x.elim)
      · refine ⟨ok.handled, ?_, ?_⟩
        · have := ok.depth; show A.depth + 1 + n ≤ 400; omega
        · have := ok.units; show A.units + 3 + 20 * n ≤ 1000; omega
      · rintro f s2 ⟨Z2, Y2, l2, W3, r2⟩
        cases f with
        | ret v => exact ⟨Z2, l1.trans l2, W3.subR (fle_forr_r r2.2), r2.1⟩
        | _ => exact r2.elim
example : ∀ pm code doc v u, bindArgs (docDef r9.name r9.params r9.body r9.scope pm code doc) ⟨[v, u], []⟩ = (do let t ← newTuple [u]; pure [(Str.ofString "a", v), (Str.ofString "p", t)]) := by
  intros; with_unfolding_all rfl
end Mine
namespace Mine
open PySem PySem.Calls PySem.W PyProof.Rows

/-! texts as lists -/
abbrev S (l : List Nat) : Str := ⟨l.toArray⟩
abbrev sl : Str := Str.ofString "/"
theorem sl_eq : sl = S [47] := rfl
theorem S_len (l : List Nat) : (S l).length = l.length := by simp [Str.length]
theorem S_app (a b : List Nat) : S a ++ S b = S (a ++ b) := by
  show (⟨(S a).cps ++ (S b).cps⟩ : Str) = _
  simp
theorem S_inj {a b : List Nat} : S a = S b ↔ a = b := by simp
theorem S_of (x : Str) : x = S x.cps.toList := by simp

/-- pieces put together with slashes -/
def jn : List (List Nat) → List Nat
  | [] => []
  | [x] => x
  | x :: y :: r => x ++ 47 :: jn (y :: r)
theorem join_S : ∀ ps : List (List Nat), Str.join sl (ps.map S) = S (jn ps)
  | [] => rfl
  | [x] => rfl
  | x :: y :: r => by
    show S x ++ sl ++ Str.join sl ((y :: r).map S) = _
    rw [join_S (y :: r), sl_eq, S_app, S_app]
    simp [jn]
theorem tjoin_S (ps : List (List Nat)) : Txt.join sl (ps.map S) = S (jn ps) := by
  show Builtin.Str.glued _ _ = _
  rw [StrLaws.glued_eq_join, join_S]
theorem jn_cons {x : List Nat} {r : List (List Nat)} (h : r ≠ []) : jn (x :: r) = x ++ 47 :: jn r := by
  cases r with
  | nil => exact (h rfl).elim
  | cons y r => rfl
theorem jn_app : ∀ {a b : List (List Nat)}, a ≠ [] → b ≠ [] → jn (a ++ b) = jn a ++ 47 :: jn b
  | [], _, h, _ => (h rfl).elim
  | [x], b, _, hb => by rw [List.singleton_append, jn_cons hb]; rfl
  | x :: y :: r, b, _, hb => by
    rw [List.cons_append, jn_cons (by simp), jn_app (a := y :: r) (by simp) hb, jn_cons (r := y :: r) (by simp)]
    simp
abbrev Free (p : List Nat) : Prop := 47 ∉ p
theorem app_inj {x y a b : List Nat} (hx : Free x) (hy : Free y) (h : x ++ 47 :: a = y ++ 47 :: b) : x = y ∧ a = b := by
  induction x generalizing y with
  | nil => cases y with
    | nil => simpa using h
    | cons c y => simp at h; exact (hy (by rw [← h.1]; exact List.mem_cons_self)).elim
  | cons c x ih => cases y with
    | nil => simp at h; exact (hx (by rw [h.1]; exact List.mem_cons_self)).elim
    | cons e y =>
      simp only [List.cons_append, List.cons.injEq] at h
      obtain ⟨e1, e2⟩ := ih (fun q => hx (List.mem_cons_of_mem _ q)) (fun q => hy (List.mem_cons_of_mem _ q)) h.2
      exact ⟨by rw [h.1, e1], e2⟩
theorem jn_inj : ∀ {a b : List (List Nat)}, a ≠ [] → b ≠ [] → (∀ p ∈ a, Free p) → (∀ p ∈ b, Free p) → jn a = jn b → a = b
  | [], _, h, _, _, _, _ => (h rfl).elim
  | _, [], _, h, _, _, _ => (h rfl).elim
  | [x], [y], _, _, _, _, h => by rw [show x = y from h]
  | [x], y :: z :: r, _, _, ha, _, h => by
    have h : x = y ++ 47 :: jn (z :: r) := h
    exact (ha x List.mem_cons_self (by rw [h]; simp)).elim
  | x :: z :: r, [y], _, _, _, hb, h => by
    have h : x ++ 47 :: jn (z :: r) = y := h
    exact (hb y List.mem_cons_self (by rw [← h]; simp)).elim
  | x :: z :: r, y :: u :: q, _, _, ha, hb, h => by
    obtain ⟨e1, e2⟩ := app_inj (ha x List.mem_cons_self) (hb y List.mem_cons_self) h
    rw [e1, jn_inj (a := z :: r) (b := u :: q) (by simp) (by simp) (fun p hp => ha p (List.mem_cons_of_mem _ hp)) (fun p hp => hb p (List.mem_cons_of_mem _ hp)) e2]
theorem split_S {ps : List (List Nat)} (h0 : ps ≠ []) (hf : ∀ p ∈ ps, Free p) : Txt.split (S (jn ps)) sl = ps.map S := by
  have h1 := StrLaws.join_split (S (jn ps)) sl
  have h2 := StrLaws.split_free (S (jn ps)) 47
  have h3 := split_pos (S (jn ps)) sl
  generalize hq : Txt.split (S (jn ps)) sl = qs at h1 h3
  have hq' : Txt.split (S (jn ps)) ⟨#[47]⟩ = qs := hq
  rw [hq'] at h2
  have e : qs = (qs.map fun q => q.cps.toList).map S := by rw [List.map_map]; simp [Function.comp_def]
  rw [e, join_S, S_inj] at h1
  rw [e]
  congr 1
  refine jn_inj (fun q => ?_) h0 (fun p hp => ?_) hf h1
  · rw [List.map_eq_nil_iff.mp q] at h3; simp at h3
  · obtain ⟨q, hq, rfl⟩ := List.mem_map.mp hp
    exact h2 q hq
theorem count_jn {ps : List (List Nat)} (h0 : ps ≠ []) (hf : ∀ p ∈ ps, Free p) : Txt.count (S (jn ps)) sl = (ps.length : Int) - 1 := by
  have h1 := split_len (S (jn ps)) 47
  have h2 := count_cnt (S (jn ps)) 47
  have h3 := congrArg List.length (split_S h0 hf)
  have e : Txt.split (S (jn ps)) ⟨#[47]⟩ = Txt.split (S (jn ps)) sl := rfl
  have e2 : Txt.count (S (jn ps)) ⟨#[47]⟩ = Txt.count (S (jn ps)) sl := rfl
  rw [e, h3, List.length_map] at h1
  rw [e2] at h2
  rw [h2]
  omega
theorem starts_S (l : List Nat) : Txt.startswith (S l) sl = (l.head? == some 47) := by
  unfold Txt.startswith
  have h := StrLaws.subAt_one (S l) 47 0
  rw [Bool.eq_iff_iff, Bool.and_eq_true, decide_eq_true_iff, beq_iff_eq, List.head?_eq_getElem?]
  exact h
theorem ends_S (l : List Nat) : Txt.endswith (S l) sl = (l.getLast? == some 47) := by
  unfold Txt.endswith
  have h := StrLaws.subAt_one (S l) 47 (l.length - 1)
  rw [Bool.eq_iff_iff, Bool.and_eq_true, decide_eq_true_iff, beq_iff_eq, List.getLast?_eq_getElem?]
  rw [S_len] at h ⊢
  have h : l.length - 1 + 1 ≤ l.length ∧ Builtin.Str.subAt (S l) sl (l.length - 1) = true ↔ l[l.length - 1]? = some 47 := h
  show 0 + 1 ≤ l.length ∧ Builtin.Str.subAt (S l) sl (l.length - 1) = true ↔ _
  constructor
  · rintro ⟨h1, h2⟩
    exact h.mp ⟨by omega, h2⟩
  · intro h3
    obtain ⟨h1, h2⟩ := h.mpr h3
    exact ⟨by omega, h2⟩
theorem rfind_S {a x : List Nat} (hx : Free x) : Txt.rfind (S (a ++ 47 :: x)) sl = a.length := by
  unfold Txt.rfind
  rcases StrLaws.last_spec (S (a ++ 47 :: x)) sl with ⟨h1, h2⟩ | ⟨i, h1, h2, h3⟩
  · exact (h2 a.length ((StrLaws.subAt_one (S (a ++ 47 :: x)) 47 a.length).mpr (by simp))).elim
  · rw [h1]
    have q : (a ++ 47 :: x)[i]? = some 47 := by simpa using (StrLaws.subAt_one (S (a ++ 47 :: x)) 47 i).mp h2
    show (i : Int) = _
    rcases Nat.lt_trichotomy i a.length with h | h | h
    · exact (h3 _ h ((StrLaws.subAt_one (S (a ++ 47 :: x)) 47 a.length).mpr (by simp))).elim
    · rw [h]
    · rw [List.getElem?_append_right (by omega)] at q
      have : i - a.length = (i - a.length - 1) + 1 := by omega
      rw [this, List.getElem?_cons_succ] at q
      exact (hx (List.mem_of_getElem? q)).elim
theorem rstrip_S {a : List Nat} (ha : a.getLast? ≠ some 47) : Txt.rstripChars (S (a ++ [47])) sl = S a := by
  unfold Txt.rstripChars
  rw [PySem.W.stripBy_eq]
  unfold W.stripped
  have h1 : (sl.cps.contains : Nat → Bool) = fun c => c == 47 := by
    funext c
    show (#[47] : Array Nat).contains c = _
    by_cases h : c = 47 <;> simp [h]
  have h2 : (a.reverse.takeWhile fun c => c == 47) = [] := by
    cases hr : a.reverse with
    | nil => rfl
    | cons c r =>
      have : a.getLast? = some c := by rw [← List.head?_reverse, hr]; rfl
      rw [this] at ha
      rw [List.takeWhile_cons, if_neg]
      simpa using ha
  have h3 : (((S (a ++ [47])).cps.toList.drop 0).reverse.takeWhile sl.cps.contains).length = 1 := by
    rw [h1, List.drop_zero, show (S (a ++ [47])).cps.toList = a ++ [47] from rfl, List.reverse_append, show ([47] : List Nat).reverse = [47] from rfl, List.singleton_append, List.takeWhile_cons]
    rw [if_pos (by rfl), h2]
    rfl
  simp only [Bool.false_eq_true, if_false, if_true]
  rw [h3, S_len]
  show (⟨(S (a ++ [47])).cps.extract 0 ((a ++ [47]).length - 1)⟩ : Str) = _
  simp
theorem srep_S (k : Nat) : srep sl k = S (List.replicate k 47) := by
  unfold srep
  have key : ∀ (k : Nat) (a : Array Nat), (List.replicate k sl.cps).foldl (· ++ ·) a = a ++ (List.replicate k 47).toArray := by
    intro k
    induction k with
    | zero => intro a; simp
    | succ k ih =>
      intro a
      rw [List.replicate_succ, List.foldl_cons, ih, List.replicate_succ]
      show a ++ #[47] ++ _ = _
      apply Array.ext'
      simp
  rw [key]
  simp
theorem scut_S (l : List Nat) (lo hi : Option Nat) : scut (S l) (lo.map fun (k : Nat) => (k : Int)) (hi.map fun (k : Nat) => (k : Int)) = S ((l.drop (lo.getD 0)).take (hi.getD l.length - lo.getD 0)) := by
  have hc : cutI (S l) (lo.map fun (k : Nat) => (k : Int)) (hi.map fun (k : Nat) => (k : Int)) = (List.range (min (hi.getD l.length) l.length - min (lo.getD 0) l.length)).map (min (lo.getD 0) l.length + ·) := by
    rw [← sliceRange_one]
    unfold cutI Builtin.Str.strSliceIndices
    rw [S_len]
    simp only [show (1 : Int) > 0 from by decide, if_true]
    congr 1
    · cases lo with
      | none => simp
      | some k => simp only [Option.map_some, Option.getD_some]; rw [if_neg (by omega)]; omega
    · cases hi with
      | none => simp
      | some k => simp only [Option.map_some, Option.getD_some]; rw [if_neg (by omega)]; omega
  unfold scut
  rw [hc, S_len, List.length_map, List.length_range]
  generalize hi.getD l.length = b
  generalize lo.getD 0 = a
  split
  · rename_i h
    rcases Nat.eq_zero_or_pos l.length with h0 | h0
    · rw [List.length_eq_zero_iff.mp h0]; simp
    · have ha : a = 0 := by omega
      have hb : l.length ≤ b := by omega
      subst ha
      rw [List.drop_zero, List.take_of_length_le (by omega)]
  · rw [S_inj, List.filterMap_map]
    have key : ∀ (k a : Nat), a + k ≤ l.length → List.filterMap (((S l).cps[·]?) ∘ (a + ·)) (List.range k) = (l.drop a).take k := by
      intro k
      induction k with
      | zero => intro a _; simp
      | succ k ih =>
        intro a h
        rw [List.range_succ, List.filterMap_append, ih a (by omega), List.take_add_one, List.getElem?_drop]
        congr 1
        have : (S l).cps[a + k]? = l[a + k]? := by simp
        simp only [Function.comp_def, List.filterMap_cons, this, List.filterMap_nil]
        cases hq : l[a + k]? with
        | none => rfl
        | some v => rfl
    by_cases h1 : a ≤ l.length
    · rw [Nat.min_eq_left h1, key _ _ (by omega)]
      by_cases h2 : b ≤ l.length
      · rw [Nat.min_eq_left h2]
      · rw [Nat.min_eq_right (by omega), List.take_of_length_le (by rw [List.length_drop]; omega), List.take_of_length_le (by rw [List.length_drop]; omega)]
    · have : min b l.length - min a l.length = 0 := by omega
      rw [this, List.drop_of_length_le (by omega)]
      simp
end Mine
namespace Mine
open PySem PySem.Calls PySem.W PyProof.Rows
variable {prog : Program} {w : World} {s₀ : Shared} {n : Nat} {ad : Str → Addr} {env : Env} {σ : Sto}

theorem S_nz {l : List Nat} (h : l.length ≤ 1000) : (S l).length ≤ sizeLine := by rw [S_len, sizeLine_eq]; omega
theorem op_cut {value slice : Expr} {l r : List Nat} {lo hi : Option Int} (lo' hi' : Option Nat) (e1 : lo = lo'.map fun (k : Nat) => (k : Int)) (e2 : hi = hi'.map fun (k : Nat) => (k : Int))
    (hr : (l.drop (lo'.getD 0)).take (hi'.getD l.length - lo'.getD 0) = r) (hz : l.length ≤ 1000) (hs : SubSlice slice := by intro _ _; with_unfolding_all rfl) :
    Op2 prog w s₀ n (subscriptTail value slice) (.str (S l)) (.slc lo hi) (.str (S r)) := by
  subst e1 e2 hr
  rw [← scut_S]
  refine op_slice_str (S_nz hz) ?_ hs
  unfold cutI Builtin.Str.strSliceIndices
  simp only [show (1 : Int) > 0 from by decide, if_true]
  refine Nat.le_trans (sliceRange_length_le _ _ _ (S l).length (fun _ => ⟨?_, ?_⟩) (fun h => (h (by decide)).elim)) (S_nz hz)
  · cases lo' with
    | none => exact Int.le_refl _
    | some k => simp only [Option.map_some]; omega
  · cases hi' with
    | none => exact Int.le_refl _
    | some k => simp only [Option.map_some]; omega
theorem tru_S {l : List Nat} {b : Bool} (hz : l.length ≤ 1000) (h : b = (l.length != 0)) : Tru prog w s₀ n (.str (S l)) b := tru_str (S_nz hz) (by rw [h, S_len])
theorem op_app {a b : List Nat} (h : a.length + b.length ≤ 1000) : Op2 prog w s₀ n (binaryOp .Add) (.str (S a)) (.str (S b)) (.str (S (a ++ b))) := by
  rw [← S_app]; exact op_add_str (by rw [S_len, S_len, sizeLine_eq]; omega)
theorem op_iapp {a b : List Nat} (h : a.length + b.length ≤ 1000) : Op2 prog w s₀ n (inplaceOp .Add) (.str (S a)) (.str (S b)) (.str (S (a ++ b))) := by
  rw [← S_app]; exact op_iadd_str (by rw [S_len, S_len, sizeLine_eq]; omega)
theorem op_eqS {a b : List Nat} {c : Bool} (h : c = decide (a = b)) : Op2 prog w s₀ n (compareOp .Eq) (.str (S a)) (.str (S b)) (.bool c) := by
  rw [h, show decide (a = b) = decide (S a = S b) from by simp]; exact op_eq_str
theorem op_neS {a b : List Nat} {c : Bool} (h : c = decide (a ≠ b)) : Op2 prog w s₀ n (compareOp .NotEq) (.str (S a)) (.str (S b)) (.bool c) := by
  rw [h, show decide (a ≠ b) = decide (S a ≠ S b) from by simp]; exact op_ne_str

/-- what join makes of two -/
def jn2 (a b : List Nat) : List Nat := if a.getLast? = some 47 then a ++ b else a ++ 47 :: b
theorem c_join (G : Gd s₀ ad) {a b : List Nat} (ha : a ≠ []) (hb : b.head? ≠ some 47) (hz : a.length + b.length ≤ 900) :
    CallT prog w s₀ (n + 2) (.ref (ad r9.name)) [.str (S a), .str (S b)] (.str (S (jn2 a b))) := by
  refine call_star (x1 := Str.ofString "a") (x2 := Str.ofString "p") (f9 G) (by intros; with_unfolding_all rfl) (by decide) (by decide) (by decide) rfl rfl rfl fun L code O => ?_
  conv => arg 7; arg 1; whnf
  refine ex_cons (ex_assign (ev_call_fn (gl O (g6 G)) (evl_cons (nm O) evl_nil) (f6 G).is (c_fspath G _)) (asg_name O)) ?_
  refine ex_cons (ex_assign (ev_call_fn (gl O (g8 G)) (evl_cons (nm O) evl_nil) (f8 G).is (c_getsep G _)) (asg_name O)) ?_
  refine ex_cons (ex_assign (nm O) (asg_name O)) ?_
  refine ex_cons (ex_try (ex_cons (ex_for_fold (α := List Nat) (fun x : List Nat => [(Str.ofString "a", .val (.str (S a))), (Str.ofString "p", .val (.tup [.str (S b)])), (Str.ofString "sep", .val (.str sl)), (Str.ofString "path", .val (.str (S x)))])
    (fun x y => jn2 x y) (fun y => .str (S y)) (fun x l => x = a ∧ l = [b] ∨ l = []) [b] a (nm O) src_tup rfl rfl (.inl ⟨rfl, rfl⟩) fun x y rest hI => ⟨?_, _, asg_name O, ?_⟩) ex_nil)) ?_
  · rcases hI with ⟨_, h⟩ | h
    · cases h; exact .inr rfl
    · cases h
  · rcases hI with ⟨rfl, h⟩ | h
    · cases h
      have hs1 : Txt.startswith (S b) sl = false := by rw [starts_S]; simpa using hb
      have hx0 : true = (x.length != 0) := by cases x with
        | nil => exact (ha rfl).elim
        | cons => rfl
      by_cases hl : x.getLast? = some 47
      · have hj : jn2 x b = x ++ b := if_pos hl
        rw [hj]
        refine ⟨_, .inl (ex_cons (ex_assign (ev_call_fn (gl O (g6 G)) (evl_cons (nm O) evl_nil) (f6 G).is (c_fspath G _)) (asg_name O)) (ex_cons (ex_if_false (evB_bool (evB_cons_go (b := false)
          (evB_val (by rfl) (ev_meth mk_startswith (nm O) (by rfl) (evl_cons (nm O) evl_nil) (hs1 ▸ ct_startswith)) tru_bool) rfl (evB_cons_go (b := false) (evB_not (b := true) (evB_val (by rfl) (nm O) (tru_S (l := x) (by omega) hx0)) rfl) rfl (evB_nil rfl))))
          (ex_cons (ex_if_true (evB_val (by rfl) (ev_meth mk_endswith (nm O) (by rfl) (evl_cons (nm O) evl_nil) ct_endswith) (by rw [ends_S, hl]; exact tru_bool))
            (ex_cons (ex_aug_name O rfl (nm O) (op_iapp (a := x) (b := b) (by omega))) ex_nil)) ex_nil)) ex_nil)), ?_⟩
        exact SubL.all (.cons rfl (.cons rfl (.cons rfl (.cons rfl .nil))))
      · have hj : jn2 x b = x ++ 47 :: b := if_neg hl
        have he : Txt.endswith (S x) sl = false := by rw [ends_S]; simpa using hl
        rw [hj]
        refine ⟨_, .inl (ex_cons (ex_assign (ev_call_fn (gl O (g6 G)) (evl_cons (nm O) evl_nil) (f6 G).is (c_fspath G _)) (asg_name O)) (ex_cons (ex_if_false (evB_bool (evB_cons_go (b := false)
          (evB_val (by rfl) (ev_meth mk_startswith (nm O) (by rfl) (evl_cons (nm O) evl_nil) (hs1 ▸ ct_startswith)) tru_bool) rfl (evB_cons_go (b := false) (evB_not (b := true) (evB_val (by rfl) (nm O) (tru_S (l := x) (by omega) hx0)) rfl) rfl (evB_nil rfl))))
          (ex_cons (ex_if_false (evB_val (by rfl) (ev_meth mk_endswith (nm O) (by rfl) (evl_cons (nm O) evl_nil) ct_endswith) (by rw [he]; exact tru_bool))
            (ex_cons (ex_aug_name O rfl (ev_binop (nm O) (nm O) (op_app (a := [47]) (b := b) (by simp; omega))) (op_iapp (a := x) (b := [47] ++ b) (by simp; omega))) ex_nil)) ex_nil)) ex_nil)), ?_⟩
        exact SubL.all (.cons rfl (.cons rfl (.cons rfl (.cons rfl .nil))))
    · cases h
  · exact ex_stop (ex_return (nm O))
end Mine
namespace Mine
open PySem PySem.Calls PySem.W PyProof.Rows
variable {prog : Program} {w : World} {s₀ : Shared} {n : Nat} {ad : Str → Addr} {env : Env} {σ : Sto}

theorem c_splitroot (G : Gd s₀ ad) {l : List Nat} (hl : l.head? ≠ some 47) (hz : l.length ≤ 900) :
    CallT prog w s₀ (n + 2) (.ref (ad r10.name)) [.str (S (47 :: l))] (.tup [.str (S []), .str (S [47]), .str (S l)]) := by
  refine call_def [(Str.ofString "p", .val (.str (S (47 :: l))))] (f10 G) (defOk1 (by decide) rfl fun _ _ _ _ => by with_unfolding_all rfl) rfl fun L code O => ?_
  conv => arg 7; arg 1; whnf
  have h2 : (l.drop 0).take 1 ≠ [47] := by
    cases l with
    | nil => simp
    | cons c r => simpa using hl
  have hz' : (47 :: l).length ≤ 1000 := by simp only [List.length_cons]; omega
  refine ex_cons (ex_assign (ev_call_fn (gl O (g6 G)) (evl_cons (nm O) evl_nil) (f6 G).is (c_fspath G _)) (asg_name O)) ?_
  refine ex_cons (ex_if_false (evB_val (by rfl) (ev_call_bi (bbi O G) (evl_cons (nm O) (evl_cons (bty O G) evl_nil)) ct_isi_str_bytes) tru_bool) (ex_cons (ex_assign ev_str (asg_name O)) (ex_cons (ex_assign ev_str (asg_name O)) ex_nil))) ?_
  refine ex_stop (ex_if_false (evB_compare (b := false) (ev_sub (nm O) (ev_slice (lo := none) (hi := some 1) trivial ev_int) (op_cut (l := 47 :: l) (r := [47]) none (some 1) rfl rfl (by simp) hz')) (nm O) (op_neS (a := [47]) (b := [47]) (by simp)))
    (ex_stop (ex_if_true (evB_bool (evB_cons_stop (evB_compare (b := true) (ev_sub (nm O) (ev_slice (lo := some 1) (hi := some 2) ev_int ev_int) (op_cut (l := 47 :: l) (r := (l.drop 0).take 1) (some 1) (some 2) rfl rfl (by simp) hz')) (nm O)
      (op_neS (b := [47]) (by simpa using h2))) rfl))
      (ex_stop (ex_return (ev_tuple (evl_cons (nm O) (evl_cons (nm O) (evl_cons (ev_sub (nm O) (ev_slice (lo := some 1) (hi := none) ev_int trivial) (op_cut (l := 47 :: l) (r := l) (some 1) none rfl rfl (by simp) hz')) evl_nil))) (by show 3 ≤ sizeLine; decide)))))))

theorem dir_walk (G : Gd s₀ ad) {a x r : List Nat} (hx : Free x) (hz : a.length + x.length ≤ 800) (hr : (a ++ [47] = List.replicate (a.length + 1) 47 ∧ r = a ++ [47]) ∨ (a ++ [47] ≠ List.replicate (a.length + 1) 47 ∧ a.getLast? ≠ some 47 ∧ r = a)) :
    CallT prog w s₀ (n + 2) (.ref (ad r11.name)) [.str (S (a ++ 47 :: x))] (.str (S r)) := by
  refine call_def [(Str.ofString "p", .val (.str (S (a ++ 47 :: x))))] (f11 G) (defOk1 (by decide) rfl fun _ _ _ _ => by with_unfolding_all rfl) rfl fun L code O => ?_
  conv => arg 7; arg 1; whnf
  have hlen : (a ++ 47 :: x).length ≤ 1000 := by simp; omega
  have hlen2 : (a ++ [47]).length ≤ 1000 := by simp; omega
  refine ex_cons (ex_assign (ev_call_fn (gl O (g6 G)) (evl_cons (nm O) evl_nil) (f6 G).is (c_fspath G _)) (asg_name O)) ?_
  refine ex_cons (ex_assign (ev_call_fn (gl O (g8 G)) (evl_cons (nm O) evl_nil) (f8 G).is (c_getsep G _)) (asg_name O)) ?_
  refine ex_cons (ex_assign (ev_binop (ev_meth mk_rfind (nm O) (by rfl) (evl_cons (nm O) evl_nil) (rfind_S hx ▸ ct_rfind)) ev_int op_add_int) (asg_name O)) ?_
  refine ex_cons (ex_assign (ev_sub (nm O) (ev_slice (lo := none) (hi := some (a.length + 1)) trivial (nm O)) (op_cut (l := a ++ 47 :: x) (r := a ++ [47]) none (some (a.length + 1)) rfl rfl (by simp [List.take_append, List.take_of_length_le (Nat.le_succ a.length)]) hlen)) (asg_name O)) ?_
  have hne : true = ((a ++ [47]).length != 0) := by simp
  have hmul : Op2 prog w s₀ (n + 1) (binaryOp .Mult) (.str sl) (.int (S (a ++ [47])).length) (.str (S (List.replicate (a.length + 1) 47))) := by
    rw [← srep_S, S_len, List.length_append]
    exact op_mul_str (by omega) (by decide) (by show (a.length + 1) * 1 ≤ _; rw [sizeLine_eq]; omega)
  rcases hr with ⟨h1, h3⟩ | ⟨h1, h2, h3⟩ <;> rw [h3]
  · refine ex_cons (ex_if_false (evB_bool (evB_cons_go (b := true) (evB_val (by rfl) (nm O) (tru_S (l := a ++ [47]) hlen2 hne)) rfl (evB_cons_stop (b := false) (evB_compare (nm O)
      (ev_binop (nm O) (ev_call_bi (bbi O G) (evl_cons (nm O) evl_nil) (ct_len_str (S_nz hlen2))) hmul) (op_neS (by simp [h1]))) rfl))) ex_nil) ?_
    exact ex_stop (ex_return (nm O))
  · refine ex_cons (ex_if_true (evB_bool (evB_cons_go (b := true) (evB_val (by rfl) (nm O) (tru_S (l := a ++ [47]) hlen2 hne)) rfl (evB_cons_go (b := true) (evB_compare (nm O)
      (ev_binop (nm O) (ev_call_bi (bbi O G) (evl_cons (nm O) evl_nil) (ct_len_str (S_nz hlen2))) hmul) (op_neS (by simp [h1]))) rfl (evB_nil rfl)))) 
      (ex_cons (ex_assign (ev_meth mk_rstrip (nm O) (by rfl) (evl_cons (nm O) evl_nil) (rstrip_S h2 ▸ ct_rstrip (S_nz hlen2))) (asg_name O)) ex_nil)) ?_
    exact ex_stop (ex_return (nm O))
end Mine
namespace Mine
open PySem PySem.Calls PySem.W PyProof.Rows
variable {prog : Program} {w : World} {s₀ : Shared} {n : Nat} {ad : Str → Addr} {env : Env} {σ : Sto}

/-- lengths and commas -/
def wt (ps : List (List Nat)) : Nat := (ps.map (·.length + 1)).sum
theorem wt_nil : wt [] = 0 := rfl
theorem wt_cons (p : List Nat) (ps : List (List Nat)) : wt (p :: ps) = p.length + 1 + wt ps := by simp [wt]
theorem wt_app (a b : List (List Nat)) : wt (a ++ b) = wt a + wt b := by simp [wt]
theorem wt_len (ps : List (List Nat)) : ps.length ≤ wt ps := by
  induction ps with
  | nil => exact Nat.le_refl _
  | cons p ps ih => rw [wt_cons, List.length_cons]; omega
theorem jn_len : ∀ {ps : List (List Nat)}, ps ≠ [] → (jn ps).length + 1 = wt ps
  | [], h => (h rfl).elim
  | [x], _ => by simp [jn, wt]
  | x :: y :: r, _ => by
    have := jn_len (ps := y :: r) (by simp)
    rw [jn_cons (by simp), wt_cons, ← this]
    simp only [List.length_append, List.length_cons]
    omega
theorem jn_le (ps : List (List Nat)) : (jn ps).length ≤ wt ps := by
  cases ps with
  | nil => exact Nat.zero_le _
  | cons p r => have := jn_len (ps := p :: r) (by simp); omega
theorem joinOk_S {ps : List (List Nat)} (h : wt ps ≤ 1000) : JoinOk sl (ps.map S) = true := by
  unfold JoinOk
  rw [StrLaws.joinTotal]
  have e : ((ps.map S).map (·.length)).sum + (ps.map S).length * (sl : Str).length = wt ps := by
    show _ + (ps.map S).length * 1 = _
    clear h
    induction ps with
    | nil => rfl
    | cons p r ih => 
      rw [wt_cons, ← ih]
      simp only [List.map_cons, List.sum_cons, List.length_cons, List.length_map, S_len]
      omega
  rw [e]
  have : ¬ (wt ps > sizeLine) := by rw [sizeLine_eq]; omega
  simpa [Builtin.Str.tooLong] using this
theorem ct_split_S {ps : List (List Nat)} (h0 : ps ≠ []) (hf : ∀ p ∈ ps, Free p) (hz : wt ps ≤ 1000) : CallT prog w s₀ n (.builtin "str.split") [.str (S (jn ps)), .str sl] (.lst ((ps.map S).map .str)) := by
  rw [← split_S h0 hf]
  have hl := jn_le ps
  refine ct_split (by rfl) (S_nz (by omega)) ?_
  rw [len_partsBetween]
  have := StrLaws.occ_length_le (S (jn ps)) sl 0 (S (jn ps)).length ((S (jn ps)).length + 1)
  rw [S_len] at this ⊢
  rw [sizeLine_eq]
  omega
theorem ct_join_S {ps : List (List Nat)} (hz : wt ps ≤ 1000) : CallT prog w s₀ n (.builtin "str.join") [.str sl, .lst ((ps.map S).map .str)] (.str (S (jn ps))) := by
  rw [← tjoin_S]
  exact ct_join (joinOk_S hz)

/-- one piece of a path -/
def nstep (ns : List (List Nat)) (p : List Nat) : List (List Nat) := if p = [] ∨ p = [46] then ns else if p = [46, 46] then ns.dropLast else ns ++ [p]
def nf (ps : List (List Nat)) : List (List Nat) := ps.foldl nstep []
def Nm (p : List Nat) : Prop := p ≠ [] ∧ p ≠ [46] ∧ p ≠ [46, 46]
theorem nstep_nm {ns : List (List Nat)} {p : List Nat} (h : ∀ q ∈ ns, Nm q) : ∀ q ∈ nstep ns p, Nm q := by
  intro q hq
  unfold nstep at hq
  split at hq
  · exact h q hq
  · split at hq
    · exact h q (List.dropLast_subset _ hq)
    · rename_i h1 h2
      rcases List.mem_append.mp hq with hq | hq
      · exact h q hq
      · rw [List.mem_singleton.mp hq]
        exact ⟨fun e => h1 (.inl e), fun e => h1 (.inr e), h2⟩
theorem wt_dropLast (ns : List (List Nat)) : wt ns.dropLast ≤ wt ns := by
  rcases List.eq_nil_or_concat ns with rfl | ⟨a, b, rfl⟩
  · exact Nat.le_refl _
  · rw [List.concat_eq_append, List.dropLast_concat, wt_app]; omega
theorem nstep_wt (ns : List (List Nat)) (p : List Nat) : wt (nstep ns p) ≤ wt ns + (p.length + 1) := by
  unfold nstep
  split
  · omega
  · split
    · have := wt_dropLast ns; omega
    · rw [wt_app, wt_cons, wt_nil]; omega

theorem c_normpath (G : Gd s₀ ad) {ps : List (List Nat)} (h0 : ps ≠ []) (hf : ∀ p ∈ ps, Free p) (hh : (jn ps).head? ≠ some 47) (hz : wt ps ≤ 800) :
    CallT prog w s₀ (n + 3) (.ref (ad r12.name)) [.str (S (47 :: jn ps))] (.str (S (47 :: jn (nf ps)))) := by
  refine call_def [(Str.ofString "path", .val (.str (S (47 :: jn ps))))] (f12 G) (defOk1 (by decide) rfl fun _ _ _ _ => by with_unfolding_all rfl) rfl fun L code O => ?_
  conv => arg 7; arg 1; whnf
  have hl := jn_le ps
  have hz' : (47 :: jn ps).length ≤ 1000 := by simp only [List.length_cons]; omega
  refine ex_cons (ex_assign (ev_call_fn (gl O (g6 G)) (evl_cons (nm O) evl_nil) (f6 G).is (c_fspath G _)) (asg_name O)) ?_
  refine ex_cons (ex_if_false (evB_val (by rfl) (ev_call_bi (bbi O G) (evl_cons (nm O) (evl_cons (bty O G) evl_nil)) ct_isi_str_bytes) tru_bool) (ex_cons (ex_assign ev_str (asg_name O)) (ex_cons (ex_assign ev_str (asg_name O)) (ex_cons (ex_assign ev_str (asg_name O)) ex_nil)))) ?_
  refine ex_cons (ex_if_false (evB_not (b := true) (evB_val (by rfl) (nm O) (tru_S hz' (by rfl))) rfl) ex_nil) ?_
  refine ex_cons (ex_assign (ev_call_fn (gl O (g10 G)) (evl_cons (nm O) evl_nil) (f10 G).is (c_splitroot G hh (by omega))) (asg_tuple (asgl_cons (asg_name O) (asgl_cons (asg_name O) (asgl_cons (asg_name O) asgl_nil))))) ?_
  refine ex_cons (ex_assign (ev_meth mk_split (nm O) (by rfl) (evl_cons (nm O) evl_nil) (ct_split_S h0 hf (by omega))) (asg_name O)) ?_
  refine ex_cons (ex_new_list O) ?_
  let st : List (List Nat) → Sto := fun ns => [(Str.ofString "sep", .val (.str sl)), (Str.ofString "dot", .val (.str (S [46]))), (Str.ofString "dotdot", .val (.str (S [46, 46]))), (Str.ofString "initial_slashes", .val (.str (S [47]))),
    (Str.ofString "comps", .val (.lst ((ps.map S).map .str))), (Str.ofString "new_comps", .own (.lst ((ns.map S).map .str)))]
  refine ex_weak (SubL.all (τ := st []) (.cons rfl (.cons rfl (.cons rfl (.cons rfl (.cons rfl (.cons rfl .nil))))))) ?_
  refine ex_cons (ex_for_fold st nstep (fun p => .str (S p)) (fun ns rest => wt ns + wt rest ≤ 900 ∧ ∀ q ∈ ns, Nm q) ps [] (nm O) src_lst (by rw [List.map_map]; rfl) rfl ⟨by rw [wt_nil]; omega, fun _ h => nomatch h⟩ fun ns p rest hI => ⟨?_, _, asg_name O, ?_⟩) ?_
  · have := nstep_wt ns p
    have h1 := hI.1
    rw [wt_cons] at h1
    exact ⟨by omega, nstep_nm hI.2⟩
  · have hp : p.length ≤ 1000 := by have h1 := hI.1; rw [wt_cons] at h1; omega
    have hn : ns.length < sizeLine := by have h1 := hI.1; have h2 := wt_len ns; rw [sizeLine_eq]; omega
    by_cases h1 : p = []
    · subst h1
      refine ⟨_, .inr (ex_stop (ex_if_true (evB_bool (evB_cons_stop (evB_not (b := false) (evB_val (by rfl) (nm O) (tru_S (l := []) hp (by rfl))) (by rfl)) rfl)) (ex_stop ex_continue))), ?_⟩
      exact SubL.all (.cons rfl (.cons rfl (.cons rfl (.cons rfl (.cons rfl (.cons rfl .nil))))))
    · have hp0 : true = (p.length != 0) := by cases p with
        | nil => exact (h1 rfl).elim
        | cons => rfl
      by_cases h2 : p = [46]
      · subst h2
        refine ⟨_, .inr (ex_stop (ex_if_true (evB_bool (evB_cons_go (b := false) (evB_not (b := true) (evB_val (by rfl) (nm O) (tru_S (l := [46]) hp (by rfl))) (by rfl)) rfl (evB_cons_stop (b := true) (evB_compare (nm O) (nm O) (op_eqS (by rfl))) rfl))) (ex_stop ex_continue))), ?_⟩
        exact SubL.all (.cons rfl (.cons rfl (.cons rfl (.cons rfl (.cons rfl (.cons rfl .nil))))))
      · have hne : ¬ (p = [] ∨ p = [46]) := fun h => h.elim h1 h2
        by_cases h3 : p = [46, 46]
        · subst h3
          have hr : nstep ns [46, 46] = ns.dropLast := by unfold nstep; rw [if_neg hne, if_pos rfl]
          rw [hr]
          rcases List.eq_nil_or_concat ns with h4 | ⟨m, q, h4⟩
          · subst h4
            refine ⟨_, .inl (ex_cons (ex_if_false (evB_bool (evB_cons_go (b := false) (evB_not (b := true) (evB_val (by rfl) (nm O) (tru_S (l := [46, 46]) hp (by rfl))) (by rfl)) rfl (evB_cons_go (b := false) (evB_compare (nm O) (nm O) (op_eqS (by decide))) rfl (evB_nil rfl)))) ex_nil)
              (ex_cons (ex_if_false (evB_thaw (x := Str.ofString "new_comps") (d := .lst []) rfl (ThL.all (.self (.cons (y := Str.ofString "comp") (d' := .str (S [46, 46])) rfl (.cons (y := Str.ofString "dotdot") (d' := .str (S [46, 46])) rfl (.cons (y := Str.ofString "initial_slashes") (d' := .str (S [47])) rfl .nil)))))
                (evB_bool (evB_cons_go (b := false) (evB_compare (nm O) (nm O) (op_neS (by decide))) rfl (evB_cons_go (b := false) (evB_bool (evB_cons_stop (evB_not (b := true) (evB_val (by rfl) (nm O) (tru_S (l := [47]) (by decide) (by rfl))) (by rfl)) rfl)) rfl
                  (evB_cons_go (b := false) (evB_bool (evB_cons_stop (evB_val (by rfl) (nm O) (tru_lst (by rfl))) rfl)) rfl (evB_nil rfl))))))
                (ex_cons (ex_if_false (evB_thaw (x := Str.ofString "new_comps") (d := .lst []) rfl (ThL.all (.self .nil)) (evB_val (by rfl) (nm O) (tru_lst (by rfl)))) ex_nil) ex_nil)) ex_nil)), ?_⟩
            exact SubL.all (.cons rfl (.cons rfl (.cons rfl (.cons rfl (.cons rfl (.cons rfl .nil))))))
          · rw [List.concat_eq_append] at h4
            subst h4
            have hq : Nm q := hI.2 q (by simp)
            have e1 : (((m ++ [q]).map S).map D.str) = ((m.map S).map D.str) ++ [.str (S q)] := by simp
            have e2 : (((m ++ [q]).map S).map D.str).length = m.length + 1 := by simp
            rw [List.dropLast_concat]
            refine ⟨_, .inl (ex_cons (ex_if_false (evB_bool (evB_cons_go (b := false) (evB_not (b := true) (evB_val (by rfl) (nm O) (tru_S (l := [46, 46]) hp (by rfl))) (by rfl)) rfl (evB_cons_go (b := false) (evB_compare (nm O) (nm O) (op_eqS (by decide))) rfl (evB_nil rfl)))) ex_nil)
              (ex_cons (ex_if_false (evB_thaw (x := Str.ofString "new_comps") (d := .lst (((m ++ [q]).map S).map .str)) rfl (ThL.all (.self (.cons (y := Str.ofString "comp") (d' := .str (S [46, 46])) rfl (.cons (y := Str.ofString "dotdot") (d' := .str (S [46, 46])) rfl (.cons (y := Str.ofString "initial_slashes") (d' := .str (S [47])) rfl .nil)))))
                (evB_bool (evB_cons_go (b := false) (evB_compare (nm O) (nm O) (op_neS (by decide))) rfl (evB_cons_go (b := false) (evB_bool (evB_cons_stop (evB_not (b := true) (evB_val (by rfl) (nm O) (tru_S (l := [47]) (by decide) (by rfl))) (by rfl)) rfl)) rfl
                  (evB_cons_go (b := false) (evB_bool (evB_cons_go (b := true) (evB_val (by rfl) (nm O) (tru_lst (by rw [e2]; rfl))) rfl (evB_cons_stop (b := false) (evB_compare (ev_sub (nm O) (ev_unary ev_int op_neg_int) (op_item_lst_neg (d := .str (S q)) (by decide) (by rw [e2]; omega)
                    (by rw [e2, e1]; have : (-1 + ((m.length + 1 : Nat) : Int)).toNat = ((m.map S).map D.str).length := by rw [List.length_map, List.length_map]; omega
                        rw [this]; simp))) (nm O) (op_eqS (by simp [hq.2.2]))) rfl))) rfl (evB_nil rfl))))))
                (ex_cons (ex_if_true (evB_thaw (x := Str.ofString "new_comps") (d := .lst (((m ++ [q]).map S).map .str)) rfl (ThL.all (.self .nil)) (evB_val (by rfl) (nm O) (tru_lst (by rw [e2]; rfl)))) (ex_cons (ex_pop (ds := (m.map S).map .str) (y := S q) O mk_pop (e1 ▸ rfl)) ex_nil)) ex_nil)) ex_nil)), ?_⟩
            exact SubL.all (.cons rfl (.cons rfl (.cons rfl (.cons rfl (.cons rfl (.cons rfl .nil))))))
        · have hr : nstep ns p = ns ++ [p] := by unfold nstep; rw [if_neg hne, if_neg h3]
          rw [hr]
          refine ⟨_, .inl (ex_cons (ex_if_false (evB_bool (evB_cons_go (b := false) (evB_not (b := true) (evB_val (by rfl) (nm O) (tru_S (l := p) hp hp0)) (by rfl)) rfl (evB_cons_go (b := false) (evB_compare (nm O) (nm O) (op_eqS (by simp [h2]))) rfl (evB_nil rfl)))) ex_nil)
            (ex_cons (ex_if_true (evB_bool (evB_cons_stop (evB_compare (nm O) (nm O) (op_neS (by simp [h3]))) rfl)) (ex_cons (ex_append O mk_append rfl (nm O) (by simpa using hn)) ex_nil)) ex_nil)), ?_⟩
          exact SubL.all (.cons rfl (.cons rfl (.cons rfl (.cons rfl (.cons rfl (.cons (by rw [show (((ns ++ [p]).map S).map D.str) = ((ns.map S).map D.str) ++ [D.str (S p)] from by simp]; rfl) .nil))))))
  · have hw : wt (nf ps) ≤ wt ps := by
      have key : ∀ (l ns : List (List Nat)), wt (l.foldl nstep ns) ≤ wt ns + wt l := by
        intro l
        induction l with
        | nil => intro ns; exact Nat.le_refl _
        | cons p l ih =>
          intro ns
          have h1 := ih (nstep ns p)
          have h2 := nstep_wt ns p
          rw [List.foldl_cons, wt_cons]
          omega
      have := key ps []
      rw [wt_nil] at this
      unfold nf
      omega
    have hj := jn_le (nf ps)
    refine ex_freeze (x := Str.ofString "new_comps") (d := .lst (((nf ps).map S).map .str)) rfl ?_
    refine ex_cons (ex_assign (nm O) (asg_name O)) ?_
    refine ex_cons (ex_assign (ev_binop (nm O) (ev_meth mk_join (nm O) (by rfl) (evl_cons (nm O) evl_nil) (ct_join_S (by omega))) (op_app (a := [47]) (by simp only [List.length_cons, List.length_nil]; omega))) (asg_name O)) ?_
    exact ex_stop (ex_return (ev_or2_left (nm O) (tru_S (l := 47 :: jn (nf ps)) (by simp only [List.length_cons]; omega) (by rfl))))
end Mine
namespace Mine
open PySem PySem.Calls PySem.W PyProof.Rows

theorem mro_map : mroOf (.type "map") = pure [.type "map", .type "object"] := by rw [mroOf_type]; kernel_rfl
theorem lookup_map_new : typeLookup (.type "map") "__new__" = pure (some (.builtin "map.__new__")) := by rw [typeLookup_type, builtinLookup_eq_fast]; kernel_rfl
theorem slot_map_init : Slot "map" "__init__" "object.__init__" :=
  .of (owner := "object") (n := "__init__") (by rw [typeLookup_type, builtinLookup_eq_fast]; kernel_rfl) (by decide +kernel) (by decide +kernel) (by decide +kernel)
    (by first | exact .inl (by decide +kernel) | exact .inr (by decide +kernel)) (by rw [isSubtype_type]; kernel_rfl)
theorem slot_map_iter : Slot "map" "__iter__" "map.__iter__" :=
  .of (owner := "map") (n := "__iter__") (by rw [typeLookup_type, builtinLookup_eq_fast]; kernel_rfl) (by decide +kernel) (by decide +kernel) (by decide +kernel)
    (by first | exact .inl (by decide +kernel) | exact .inr (by decide +kernel)) (by rw [isSubtype_type]; kernel_rfl)
theorem slot_map_next : Slot "map" "__next__" "map.__next__" :=
  .of (owner := "map") (n := "__next__") (by rw [typeLookup_type, builtinLookup_eq_fast]; kernel_rfl) (by decide +kernel) (by decide +kernel) (by decide +kernel)
    (by first | exact .inl (by decide +kernel) | exact .inr (by decide +kernel)) (by rw [isSubtype_type]; kernel_rfl)
theorem called_map : TypeCalled "map" "map.__new__" "object.__init__" :=
  ⟨by decide +kernel, by decide +kernel, ⟨_, _, mro_map⟩, madeBy_type mro_map lookup_map_new (by decide +kernel), by decide +kernel, by rw [isSubtype_type]; kernel_rfl, slot_map_init⟩
theorem typeCall_map_2 (a b : Value) : checkTypeCall "map" ⟨[a, b], []⟩ = pure () := by kernel_rfl
theorem newCall_map_2 (a b : Value) : checkBuiltinCall "map.__new__" ⟨[.type "map", a, b], []⟩ = pure () := by kernel_rfl
theorem entry_map_new : entryFor table "map.__new__" = some Builtin.«map.__new__» := entryFor_of_tree (by kernel_rfl)
theorem entry_map_next : entryFor table "map.__next__" = some Builtin.«map.__next__» := entryFor_of_tree (by kernel_rfl)
theorem entry_map_iter : entryFor table "map.__iter__" = some Builtin.«dict_keyiterator.__iter__» :=
  entryFor_alias (id' := "dict_keyiterator.__iter__") (by kernel_rfl) (by first | rfl | decide +kernel) (by decide +kernel) (by kernel_rfl)
theorem args_map_next_1 (a : Value) : argsOk "map.__next__" ⟨[a], []⟩ := by unfold argsOk; kernel_rfl
theorem args_map_iter_1 (a : Value) : argsOk "map.__iter__" ⟨[a], []⟩ := by unfold argsOk; kernel_rfl
theorem sub_map : isSubtype (.type "map") (.type "map") = pure true := by rw [isSubtype_type]; kernel_rfl
theorem map_no_len : typeLookup (.type "map") "__len__" = pure none := by rw [typeLookup_type, builtinLookup_eq_fast]; kernel_rfl
theorem map_no_hint : typeLookup (.type "map") "__length_hint__" = pure none := by rw [typeLookup_type, builtinLookup_eq_fast]; kernel_rfl

abbrev mh1 (h : Heap) (l : Addr) : Heap := h.push { cls := .type "list_iterator", data := .fields #[.ref l, .int 0 0] }
abbrev mh2 (h : Heap) (l : Addr) : Heap := (mh1 h l).push { cls := .type "tuple", data := .seq #[.ref h.objs.size] }
abbrev mh3 (h : Heap) (l : Addr) (f : Value) : Heap := (mh2 h l).push { cls := .type "map", data := .fields #[.ref (mh1 h l).objs.size, f] }
theorem map_new (f : Value) (l : Addr) (xs : Array Value) :
    Meets (Builtin.«map.__new__» ⟨[.type "map", f, .ref l], []⟩) (fun _ R s => s.heap.IsList l xs ∧ R (.ok (.ret (.ref (mh2 s.heap l).objs.size))) { s with heap := mh3 s.heap l f }) :=
  .of_wp fun prog w A R s h => by
    obtain ⟨hp, g, d, tk, os⟩ := s; obtain ⟨hl1, h⟩ := h
    have hsub := sub_map
    have hL1 : Heap.IsList (Shared.heap ⟨hp, g, d, tk, os⟩) l xs := hl1
    wp_walk using wpAny_pyIter_list hL1
    exact ⟨_, rfl, h⟩
end Mine
namespace Mine
open PySem PySem.Calls PySem.W PyProof.Rows
variable {prog : Program} {w : World} {s₀ : Shared} {n : Nat}

abbrev mapO (T : Addr) (f : Value) : Obj := { cls := .type "map", data := .fields #[.ref T, f] }
theorem map_next_item {A : Around} {E : Value → Shared → Prop} {s : Shared} {M T it l : Addr} {f x : Value} {items : Array Value} {i m : Nat} {Q : Option Value → Shared → Prop} (hM : s.heap.get? M = some (mapO T f)) (hT : s.heap.get? T = some (tupO [.ref it] m))
    (hit : s.heap.IsListIter it l i) (hl : s.heap.IsList l items) (hx : items[i]? = some x) (hMi : M ≠ it)
    (hc : ∀ h', h'.IsListIter it l (i + 1) → Heap.SameBut it s.heap h' → wpAny (model prog w) A.in1 (call f [x] []) (fun v s' => Q (some v) s') nope { s with heap := h' }) :
    wpAny (model prog w) A (pyNext (.ref M)) Q E s := by
  have hTy : s.TypeIs (.ref M) "map" := ⟨_, hM, rfl⟩
  unfold pyNext
  refine wpAny_bind (wpAny_attempt (wpAny_callSpecial?_slot (name := Str.ofString "__next__") hTy slot_map_next (wpAny_call_entry slot_map_next hTy entry_map_next ?_ (args_map_next_1 _))))
  show wpAny _ _ (field (.ref M) 0 >>= _) _ _ s
  refine wpAny_bind (wpAny_field hM rfl (x := .ref T) rfl (wpAny_bind (wpAny_seqItems hT rfl ?_)))
  simp only [List.forIn_toArray, List.forIn_cons, List.forIn_nil]
  refine wpAny_bind (wpAny_bind (wpAny_bind (wpAny_holding ?_)))
  refine wpAny_nextOf_list_item hit hl hx fun h' hit' hs' => wpAny_pure ?_
  refine wpAny_pure ?_
  have hM' : h'.get? M = some (mapO T f) := (hs'.2 M hMi).trans hM
  refine wpAny_bind (wpAny_field hM' rfl (x := f) rfl (wpAny_bind (wpAny_holding (wpAny_mono (hc h' hit' hs') ?_ fun _ _ x => x.elim))))
  intro v s' hq
  refine wpAny_bind (wpAny_letGo ?_)
  exact wpAny_pure ⟨v, rfl, wpAny_pure hq⟩
theorem map_next_end {A : Around} {E : Value → Shared → Prop} {s : Shared} {M T it l : Addr} {f : Value} {items : Array Value} {i m : Nat} {Q : Option Value → Shared → Prop} (hh : A.handled = none) (hM : s.heap.get? M = some (mapO T f)) (hT : s.heap.get? T = some (tupO [.ref it] m))
    (hit : s.heap.IsListIter it l i) (hl : s.heap.IsList l items) (hx : items[i]? = none)
    (hQ : ∀ h', Heap.ExtBut it s.heap h' → Q none { s with heap := h' }) :
    wpAny (model prog w) A (pyNext (.ref M)) Q E s := by
  have hTy : s.TypeIs (.ref M) "map" := ⟨_, hM, rfl⟩
  unfold pyNext
  refine wpAny_bind (wpAny_attempt (wpAny_callSpecial?_slot (name := Str.ofString "__next__") hTy slot_map_next (wpAny_call_entry slot_map_next hTy entry_map_next ?_ (args_map_next_1 _))))
  show wpAny _ _ (field (.ref M) 0 >>= _) _ _ s
  refine wpAny_bind (wpAny_field hM rfl (x := .ref T) rfl (wpAny_bind (wpAny_seqItems hT rfl ?_)))
  simp only [List.forIn_toArray, List.forIn_cons, List.forIn_nil]
  refine wpAny_bind (wpAny_bind (wpAny_bind (wpAny_holding ?_)))
  refine wpAny_nextOf_list_end hh hit hl hx fun h' e he hE => ?_
  obtain ⟨o, ho, hc⟩ := hE
  refine wpAny_bind (wpAny_isInstance (T := "StopIteration") (b := true) ⟨o, ho, hc⟩ isSubtype_stop ?_)
  exact wpAny_pure (hQ h' he)
theorem ok_in {A : Around} (ok : Ok (n + 1) A) : Ok n A.in1.in1.in1.in1.in1.in1 := by
  refine ⟨ok.handled, ?_, ?_⟩
  · have := ok.depth; show A.depth + n ≤ 400; omega
  · have := ok.units; show A.units + 1 + 1 + 1 + 1 + 1 + 1 + 20 * n ≤ 1000; omega
abbrev litO (l i : Nat) : Obj := { cls := .type "list_iterator", data := .fields #[.ref l, .int i 0] }
/-- the loop of list.extend over a map -/
theorem ext_map {A : Around} {f : Value} {M T it l S m : Addr} {vs : List Value} {ds rs : List D} {R : Fz} {res : Value} (hA : ∀ k, k ≤ ds.length → ∀ d r, ds[k]? = some d → rs[k]? = some r → CallT prog w s₀ n f [d] r)
    (hlen : ds.length = rs.length) (okA : Ok n A.in1.in1) (hsz : ds.length ≤ 1000) (hitS : it ≠ S) (hR1 : R it = none) (hR2 : R S = none) :
    ∀ (k i : Nat) (s : Shared) (Z : Fz) (acc : List Value) (c : Nat) (oi : Obj), ds.length - i = k → i ≤ ds.length → Z M = some (mapO T f) → Z T = some (tupO [.ref it] 0) → Z l = some (lstO vs m) → IsAll (hsOf prog w) Z vs ds →
      oi.cls = .type "list_iterator" → oi.data = .fields #[.ref l, .int i 0] →
      Wd s₀ Z (fset (fset R it oi) S (lstO acc c)) s → IsAll (hsOf prog w) Z acc (rs.take i) →
      codeAny (model prog w) A (.builtin "list.extend.loop" ⟨[.ref S, .ref M, res], []⟩) (fun r s' => r = .ok (.ret res) ∧ ∃ Z' vs' c' , FLe Z Z' ∧ Wd s₀ Z' (fset R S (lstO vs' c')) s' ∧ IsAll (hsOf prog w) Z' vs' rs) s := by
  have hRi : ∀ (oi : Obj) (oS : Obj), fset (fset R it oi) S oS it = some oi := fun oi oS => by rw [fset_ne hitS, fset_self]
  intro k
  induction k with
  | zero =>
    intro i s Z acc c oi hk hi hM hT hl hall hc1 hc2 W hacc
    have hin : i = ds.length := by omega
    refine codeAny_builtin PySem.F.entry_extend_loop ?_
    rw [Around.under_plainId PySem.F.plain_extend_loop _]
    show wpAny _ A.in1 (pyNext (.ref M) >>= _) _ _ s
    have hvl := hall.length
    refine wpAny_bind (map_next_end okA.handled (W.frz _ _ hM) (W.frz _ _ hT) (it := it) (l := l) (i := i) ⟨oi, W.rest _ _ (hRi _ _), hc1, hc2⟩ ⟨_, W.frz _ _ hl, rfl, _, rfl⟩ (by simp; omega) fun h' he => ?_)
    refine wpAny_pure ⟨rfl, Z, acc, c, .refl Z, ?_, ?_⟩
    · have hzi : Z it = none := W.off _ _ (hRi _ _)
      have W2 : Wd s₀ Z (fset R S (lstO acc c)) s := W.subR fun a o e => by
        by_cases ha : a = S
        · subst ha; rw [fset_self] at e ⊢; exact e
        · rw [fset_ne ha] at e ⊢
          by_cases hb : a = it
          · subst hb; rw [hR1] at e; cases e
          · rw [fset_ne hb]; exact e
      exact W2.but (tk := s.toks) (· = it) (fun a e => e ▸ ⟨hzi, by rw [fset_ne hitS]; exact hR1⟩) fun b o hb e => he b o hb e
    · rw [hin, List.take_of_length_le (by omega)] at hacc
      exact hacc
  | succ k ih =>
    intro i s Z acc c oi hk hi hM hT hl hall hc1 hc2 W hacc
    have hlt : i < ds.length := by omega
    have hMi : M ≠ it := fun q => by
      have := W.off _ _ (hRi oi (lstO acc c))
      rw [← q, hM] at this; cases this
    have hvl := hall.length
    obtain ⟨x, hx, ix⟩ := hall.get (k := i) (d := ds[i]) (by simp [hlt])
    refine codeAny_builtin PySem.F.entry_extend_loop ?_
    rw [Around.under_plainId PySem.F.plain_extend_loop _]
    show wpAny _ A.in1 (pyNext (.ref M) >>= _) _ _ s
    refine wpAny_bind (map_next_item (W.frz _ _ hM) (W.frz _ _ hT) (it := it) (l := l) (i := i) (x := x) ⟨oi, W.rest _ _ (hRi _ _), hc1, hc2⟩ ⟨_, W.frz _ _ hl, rfl, _, rfl⟩ (by simpa using hx) hMi fun h' hit' hs' => ?_)
    obtain ⟨oi', ho', c1', c2'⟩ := hit'
    have W1 := W.setR (tk := s.toks) (hRi oi (lstO acc c)) hs' ho'
    have hR' : fset (fset (fset R it oi) S (lstO acc c)) it oi' = fset (fset R it oi') S (lstO acc c) := by
      funext a
      by_cases ha : a = it
      · subst ha; rw [fset_self, fset_ne hitS, fset_self]
      · rw [fset_ne ha]
        by_cases hb : a = S
        · subst hb; rw [fset_self, fset_self]
        · rw [fset_ne hb, fset_ne hb, fset_ne ha, fset_ne ha]
    rw [hR'] at W1
    refine wpAny_mono (hA i (by omega) ds[i] (rs[i]'(by omega)) (by simp [hlt]) (by simp [show i < rs.length by omega]) A.in1.in1 Z _ _ [x] okA W1 (.one ix)) ?_ fun _ _ x => x
    rintro v s2 ⟨Z2, l2, W2, i2⟩
    have hS : s2.heap.get? S = some (lstO acc c) := W2.rest _ _ fset_self
    have hal := hacc.length
    rw [List.length_take] at hal
    show wpAny _ A.in1 (updateSeq S (·.push v) >>= _) _ _ _
    refine wpAny_bind ?_
    refine wpAny_updateSeq hS rfl (wpAny_pure ⟨plainId_quiet PySem.F.plain_extend_loop _, ?_⟩) (by simp; rw [sizeLine_eq]; omega) (by simp; rw [sizeLine_eq]; omega)
    have hnew : (s2.heap.update S (Obj.mapSeq (·.push v))).get? S = some (lstO (acc ++ [v]) (c + 1)) := (Heap.get?_update_self _ hS rfl).trans (by rw [lst_push])
    have W3 := W2.setR (tk := s2.toks) fset_self (Heap.SameBut.update ..) hnew
    have hR3 : fset (fset (fset R it oi') S (lstO acc c)) S (lstO (acc ++ [v]) (c + 1)) = fset (fset R it oi') S (lstO (acc ++ [v]) (c + 1)) := by
      funext a
      by_cases hb : a = S
      · subst hb; rw [fset_self, fset_self]
      · rw [fset_ne hb, fset_ne hb, fset_ne hb]
    rw [hR3] at W3
    refine codeAny_mono (ih (i + 1) _ Z2 (acc ++ [v]) (c + 1) oi' (by omega) (by omega) (l2 _ _ hM) (l2 _ _ hT) (l2 _ _ hl) (hall.mono l2) c1' (by rw [c2']) W3 ?_) ?_
    · have : rs.take (i + 1) = rs.take i ++ [rs[i]'(by omega)] := by rw [List.take_succ_eq_append_getElem]
      rw [this]
      exact (hacc.mono l2).append (.one i2)
    · rintro r s4 ⟨e, Z4, vs4, c4, l4, q⟩
      exact ⟨e, Z4, vs4, c4, l2.trans l4, q⟩
end Mine
namespace Mine
open PySem PySem.Calls PySem.W PyProof.Rows
variable {prog : Program} {w : World} {s₀ : Shared} {n : Nat} {env : Env} {σ : Sto}

theorem pyIter_map {A : Around} {E : Value → Shared → Prop} {s : Shared} {M T : Addr} {f : Value} {Q : Value → Shared → Prop} (hM : s.heap.get? M = some (mapO T f)) (h : Q (.ref M) s) : wpAny (model prog w) A (pyIter (.ref M)) Q E s := by
  have hT : s.TypeIs (.ref M) "map" := ⟨_, hM, rfl⟩
  refine wpAny_pyIter_slot hT slot_map_iter (wpAny_call_entry slot_map_iter hT entry_map_iter ?_ (args_map_iter_1 _))
  show wpAny _ _ (ret (.ref M)) _ _ s
  exact wpAny_pure ⟨_, rfl, "map", _, hT, slot_map_next.lookup, h⟩
theorem ok_in2 {A : Around} (ok : Ok (n + 1) A) : Ok n A.in1.in1.in1.in1 := by
  refine ⟨ok.handled, ?_, ?_⟩
  · have := ok.depth; show A.depth + n ≤ 400; omega
  · have := ok.units; show A.units + 1 + 1 + 1 + 1 + 20 * n ≤ 1000; omega
theorem collect_map {A : Around} {E : Value → Shared → Prop} {s : Shared} {f : Value} {M T it l m : Addr} {vs : List Value} {ds rs : List D} {R Z : Fz} {oi : Obj} {Q : List Value → Shared → Prop}
    (hA : ∀ k, k ≤ ds.length → ∀ d r, ds[k]? = some d → rs[k]? = some r → CallT prog w s₀ n f [d] r)
    (hlen : ds.length = rs.length) (okA : Ok n A.in1.in1) (hsz : ds.length ≤ 1000) (hR1 : R it = none) (hM : Z M = some (mapO T f)) (hT : Z T = some (tupO [.ref it] 0)) (hl : Z l = some (lstO vs m)) (hall : IsAll (hsOf prog w) Z vs ds)
    (hc1 : oi.cls = .type "list_iterator") (hc2 : oi.data = .fields #[.ref l, .int 0 0]) (W : Wd s₀ Z (fset R it oi) s)
    (hQ : ∀ Z' vals s', FLe Z Z' → Wd s₀ Z' R s' → IsAll (hsOf prog w) Z' vals rs → Q vals s') : wpAny (model prog w) A (collect (.ref M)) Q E s := by
  have hgM := W.frz _ _ hM
  have hTy : s.TypeIs (.ref M) "map" := ⟨_, hgM, rfl⟩
  have hSM : s.heap.objs.size ≠ M := Nat.ne_of_gt (Heap.lt_size hgM)
  have hf := W.none_of_ge (Nat.le_refl s.heap.objs.size)
  have hit : s.heap.get? it = some oi := W.rest _ _ fset_self
  have hitS : it ≠ s.heap.objs.size := Nat.ne_of_lt (Heap.lt_size hit)
  have hR2 : R s.heap.objs.size = none := by
    have := hf.2
    rwa [fset_ne (Ne.symm hitS)] at this
  unfold collect
  refine wpAny_bind (wpAny_runValue (codeAny_builtin PySem.F.entry_proto_collect ?_))
  rw [Around.under_plainId PySem.F.plain_proto_collect _]
  show wpAny _ A.in1 (newList [] >>= fun l => again (.builtin "list.__iadd__" ⟨[l, .ref M], []⟩)) _ _ s
  refine wpAny_bind (wpAny_newObj_type ?_)
  refine wpAny_pure ⟨plainId_quiet PySem.F.plain_list_iadd _, codeAny_builtin PySem.F.entry_list_iadd ?_⟩
  rw [Around.under_plainId PySem.F.plain_list_iadd _]
  show wpAny _ A.in1 (Builtin.List.listExtendWith (.ref s.heap.objs.size) (.ref M) (.ref s.heap.objs.size)) _ _ _
  have hgM1 : (s.heap.push (lstO [] 0)).get? M = some (mapO T f) := Heap.get?_push_of_some _ hgM
  have hT1 : Shared.TypeIs { s with heap := s.heap.push (lstO [] 0) } (.ref M) "map" := ⟨_, hgM1, rfl⟩
  unfold Builtin.List.listExtendWith
  refine wpAny_bind (wpAny_typeOf hT1 ?_)
  have h1 : Builtin.List.listSameRef (.ref s.heap.objs.size) (.ref M) = false := by simp [Builtin.List.listSameRef, hSM]
  have h2 : (Value.type "map" == Value.type "list") = false := by decide
  have h3 : (Value.type "map" == Value.type "tuple") = false := by decide
  simp only [h1, h2, h3, Bool.or_false, Bool.false_eq_true, if_false]
  refine wpAny_bind (pyIter_map hgM1 ?_)
  refine wpAny_bind (wpAny_holding ?_)
  unfold Builtin.List.listLengthHint
  refine wpAny_bind (wpAny_specialOf hT1 map_no_len ?_)
  show wpAny _ A.in1 (specialOf (Value.ref M) (Str.ofString "__length_hint__") >>= _) _ _ _
  refine wpAny_bind (wpAny_specialOf hT1 map_no_hint ?_)
  refine wpAny_pure ?_
  show wpAny _ A.in1 (rule "list.extend.makes-room" >>= fun _ => Builtin.List.listTouch (.ref s.heap.objs.size) >>= fun _ =>
    again (.builtin "list.extend.loop" ⟨[.ref s.heap.objs.size, .ref M, .ref s.heap.objs.size], []⟩)) _ _ _
  refine wpAny_bind (wpAny_rule ?_)
  have hS₁ : (s.heap.push (lstO [] 0)).get? s.heap.objs.size = some (lstO [] 0) := Heap.get?_push_size _ rfl
  refine wpAny_bind ?_
  show wpAny _ A.in1 (updateSeq s.heap.objs.size (·.push .none) >>= fun _ => updateSeq s.heap.objs.size (·.pop)) _ _ _
  refine wpAny_bind (wpAny_updateSeq hS₁ rfl ?_)
  have hS₂ := Heap.get?_update_self (Obj.mapSeq (·.push Value.none)) hS₁ rfl
  refine wpAny_updateSeq hS₂ rfl ?_
  have hS₃ := Heap.get?_update_self (Obj.mapSeq (·.pop)) hS₂ rfl
  have oth : ∀ b o, s.heap.get? b = some o →
      (((s.heap.push (lstO [] 0)).update s.heap.objs.size (Obj.mapSeq (·.push Value.none))).update s.heap.objs.size (Obj.mapSeq (·.pop))).get? b = some o :=
    fun b o e => (Heap.get?_update_other _ _ (Nat.ne_of_gt (Heap.lt_size e))).trans ((Heap.get?_update_other _ _ (Nat.ne_of_gt (Heap.lt_size e))).trans (Heap.get?_push_of_some _ e))
  have W1 := W.grow (tk := s.toks) oth
  have W2 := W1.addR hf.1 hS₃
  refine wpAny_pure ⟨plainId_quiet PySem.F.plain_extend_loop _, ?_⟩
  refine codeAny_mono (ext_map (res := .ref s.heap.objs.size) hA hlen okA hsz hitS hR1 hR2 ds.length 0 _ Z [] _ oi rfl (Nat.zero_le _) hM hT hl hall hc1 hc2 W2 .nil) ?_
  rintro r s' ⟨rfl, Z', vs', c', l', W', i'⟩
  show wpAny _ A (load s.heap.objs.size >>= _) _ _ s'
  refine wpAny_bind (wpAny_load (W'.rest _ _ fset_self) ?_)
  refine wpAny_pure (hQ Z' _ s' l' (W'.subR fun a o e => ?_) (by simpa using i'))
  by_cases ha : a = s.heap.objs.size
  · subst ha; rw [hR2] at e; cases e
  · rw [fset_ne ha]; exact e
theorem code_tuple_map {A : Around} {E : Value → Shared → Prop} {s : Shared} {f : Value} {M T it l m : Addr} {vs : List Value} {ds rs : List D} {R Z : Fz} {oi : Obj} {Q : Value → Shared → Prop}
    (hA : ∀ k, k ≤ ds.length → ∀ d r, ds[k]? = some d → rs[k]? = some r → CallT prog w s₀ n f [d] r)
    (hlen : ds.length = rs.length) (okA : Ok n A.in1.in1.in1) (hsz : ds.length ≤ 1000) (hR1 : R it = none) (hM : Z M = some (mapO T f)) (hT : Z T = some (tupO [.ref it] 0)) (hl : Z l = some (lstO vs m)) (hall : IsAll (hsOf prog w) Z vs ds)
    (hc1 : oi.cls = .type "list_iterator") (hc2 : oi.data = .fields #[.ref l, .int 0 0]) (W : Wd s₀ Z (fset R it oi) s)
    (hQ : ∀ Z' vals s', FLe Z Z' → Wd s₀ Z' R s' → IsAll (hsOf prog w) Z' vals rs → Q (.ref s'.heap.objs.size) { s' with heap := s'.heap.push (tupO vals 0) }) :
    codeAny (model prog w) A (.call (.builtin "tuple.__new__") ⟨[.type "tuple", .ref M], []⟩) (wants Q E) s := by
  refine codeAny_of_tree ?_
  show wpAny _ A.in1 (do checkBuiltinCall "tuple.__new__" ⟨[.type "tuple", .ref M], []⟩; again (.builtin "tuple.__new__" ⟨[.type "tuple", .ref M], []⟩)) _ _ s
  refine wpAny_bind (wpAny_of_eq (PySem.F.newCall_tuple_1 _) (wpAny_pure ⟨plainId_quiet PySem.F.plain_tuple_new _, codeAny_builtin PySem.F.entry_tuple_new ?_⟩))
  rw [Around.under_plainId PySem.F.plain_tuple_new _]
  have hsub := sub_tuple_self
  have hinit := init_tuple_lookup
  have hmh := madeHere_tuple
  have hTI : s.TypeIs (.ref M) "map" := ⟨_, W.frz _ _ hM, rfl⟩
  wp_walk using wpAny_typeOf hTI, collect_map hA hlen okA hsz hR1 hM hT hl hall hc1 hc2 W
  intro Z' vals s' l' W' i'
  have hzl : vals.length ≤ sizeLine := by rw [i'.length, ← hlen, sizeLine_eq]; omega
  show wpAny _ _ (Builtin.Tuple.tupleExact vals.toArray >>= fun v => ret v) _ _ _
  unfold Builtin.Tuple.tupleExact
  refine wpAny_bind (wpAny_newObj_type ?_ (by show vals.toArray.size ≤ sizeLine; simpa using hzl))
  exact wpAny_pure (hQ Z' vals s' l' W' i')

/-- tuple(map(f, xs)) -/
theorem ev_tuple_map {tupf mapf ff arg : Expr} {pos mpos : Pos} {fa : Addr} {ds rs : List D} (hf : Ev prog w s₀ (n + 1) env σ (eval tupf env) (.ty "tuple")) (hm : Ev prog w s₀ (n + 1) env σ (eval mapf env) (.ty "map"))
    (h1 : Ev prog w s₀ (n + 1) env σ (eval ff env) (.fn fa)) (h2 : Ev prog w s₀ (n + 1) env σ (eval arg env) (.lst ds))
    (hA : ∀ k, k ≤ ds.length → ∀ d r, ds[k]? = some d → rs[k]? = some r → CallT prog w s₀ n (.ref fa) [d] r) (hlen : ds.length = rs.length) (hsz : ds.length ≤ 1000)
    (hev : eval (.Call tupf [.Call mapf [ff, arg] [] mpos] [] pos) env = (do callWith pos (← eval tupf env) [] (backTo pos (starEach [.Call mapf [ff, arg] [] mpos] env)) (backToKw pos (keywordEach [] env))) := by rfl)
    (hevm : eval (.Call mapf [ff, arg] [] mpos) env = (do callWith mpos (← eval mapf env) [] (backTo mpos (starEach [ff, arg] env)) (backToKw mpos (keywordEach [] env))) := by rfl)
    (hplm : (starEach [ff, arg] env).any (·.1) = false := by rfl)
    (hz1 : backTo mpos (starEach [ff, arg] env) = (false, eval ff env) :: backTo mpos (starEach [arg] env) := by rfl) (hz2 : backTo mpos (starEach [arg] env) = (false, eval arg env) :: backTo mpos (starEach [] env) := by rfl) :
    Ev prog w s₀ (n + 1) env σ (eval (.Call tupf [.Call mapf [ff, arg] [] mpos] [] pos) env) (.tup rs) := by
  intro A Z R s ok W S
  rw [hev]
  refine wpAny_bind (wpAny_mono (hf A Z R s ok W S) ?_ fun _ _ x => x)
  rintro fv s1 ⟨Z1, l1, W1, i1⟩
  obtain rfl := i1.ty_inv
  have S1 := S.mono l1 (FLe.refl R)
  show wpAny _ A (callWith pos (.type "tuple") [] (backTo pos (starEach [.Call mapf [ff, arg] [] mpos] env)) []) _ _ s1
  refine callWith_type (trees_plain (by rfl)) (evalArgs_plain ?_)
  refine spliced_cons ?_
  show wpAny _ A (eval (.Call mapf [ff, arg] [] mpos) env) _ _ _
  rw [hevm]
  refine wpAny_bind (wpAny_mono (hm A Z1 R s1 ok W1 S1) ?_ fun _ _ x => x)
  rintro zv s2 ⟨Z2, l2, W2, i2⟩
  obtain rfl := i2.ty_inv
  show wpAny _ A (callWith mpos (.type "map") [] (backTo mpos (starEach [ff, arg] env)) []) _ _ s2
  refine callWith_type (trees_plain hplm) (evl_args (trees_plain hplm) (evl_cons h1 (evl_cons h2 evl_nil hz2) hz1) ok W2 (S1.mono l2 (.refl _)) fun vs s3 Z3 l3 W3 i3 => ?_)
  obtain ⟨_, _, rfl, ia, ib⟩ := i3.two_inv
  obtain rfl := ia.fn_inv
  obtain ⟨_, _, _, rfl, eb, zb, allb⟩ := ib.lst_inv
  ·
        rename_i l us m
        have hl : s3.heap.IsList l us.toArray := ⟨_, W3.frz _ _ eb, rfl, _, rfl⟩
        refine callType_new called_map (by decide) (typeCall_map_2 _ _) (newCall_map_2 _ _) (fun obj => PySem.F.args_object_init_3 obj _ _) entry_map_new (map_new (.ref fa) l us.toArray) ⟨hl, ?_⟩
        have hf0 := W3.none_of_ge (Nat.le_refl s3.heap.objs.size)
        have W4 : Wd s₀ Z3 (fset R s3.heap.objs.size (litO l 0)) { s3 with heap := mh1 s3.heap l } := (W3.grow (tk := s3.toks) fun b o e => Heap.get?_push_of_some _ e).addR hf0.1 (Heap.get?_push_size _ rfl)
        have W5 := W4.push (tupO [.ref s3.heap.objs.size] 0) rfl
        have W6 := W5.push (mapO (mh1 s3.heap l).objs.size (.ref fa)) rfl
        have z4 : Z3 (mh1 s3.heap l).objs.size = none := (W4.none_of_ge (Nat.le_refl _)).1
        have z5 : fset Z3 (mh1 s3.heap l).objs.size (tupO [.ref s3.heap.objs.size] 0) (mh2 s3.heap l).objs.size = none := (W5.none_of_ge (Nat.le_refl _)).1
        have l4 := fle_fset (o := tupO [.ref s3.heap.objs.size] 0) z4
        have l5 := fle_fset (o := mapO (mh1 s3.heap l).objs.size (.ref fa)) z5
        have hgM : (mh3 s3.heap l (.ref fa)).get? (mh2 s3.heap l).objs.size = some (mapO (mh1 s3.heap l).objs.size (.ref fa)) := Heap.get?_push_size _ rfl
        refine ⟨⟨_, hgM, rfl⟩, ?_⟩
        refine spliced_nil ?_
        refine callType_codes (Q₁ := fun obj s₁ => s₁.TypeIs obj "tuple" ∧ Post prog w s₀ Z R (.tup rs) obj s₁) PySem.F.called_tuple (PySem.F.typeCall_tuple_1 _) PySem.F.entry_object_init
          (code_tuple_map (rs := rs) (M := (mh2 s3.heap l).objs.size) (T := (mh1 s3.heap l).objs.size) (it := s3.heap.objs.size) (l := l) (oi := litO l 0) hA hlen (ok_in2 ok) hsz hf0.2 fset_self (l5 _ _ fset_self) (l5 _ _ (l4 _ _ eb)) ((allb.mono l4).mono l5) rfl rfl W6 ?_) fun obj s₁ h₁ => ?_
        · intro Z' vals s' l' W' i'
          have hzl : vals.length ≤ sizeLine := by rw [i'.length, ← hlen, sizeLine_eq]; omega
          refine ⟨⟨_, Heap.get?_push_size _ rfl, rfl⟩, ?_⟩
          refine Post.mono (((((l1.trans l2).trans l3).trans l4).trans l5).trans l') ?_
          have W7 := W'.push (tupO vals 0) rfl
          have z7 := (W'.none_of_ge (Nat.le_refl _)).1
          exact ⟨_, fle_fset z7, W7, .tup fset_self hzl (i'.mono (fle_fset z7))⟩
        · exact ⟨h₁.1, PySem.F.args_object_init_2 obj _, object_init_meets PySem.F.called_tuple.init.lookup PySem.F.called_tuple.made (by decide) prog w A.in1 _ s₁ ⟨h₁.1, rfl, h₁.2⟩⟩
end Mine
namespace Mine
open PySem PySem.Calls PySem.W PyProof.Rows
variable {prog : Program} {w : World} {s₀ : Shared} {n : Nat} {env : Env} {σ : Sto}

theorem pick_range (l : List D) (b : Nat) : ((List.range b).map (0 + ·)).filterMap (l[·]?) = l.take b := by
  induction b with
  | zero => simp
  | succ b ih =>
    rw [List.range_succ, List.map_append, List.filterMap_append, ih, List.take_add_one]
    congr 1
    simp only [List.map_cons, List.map_nil, Nat.zero_add, List.filterMap_cons, List.filterMap_nil]
    cases l[b]? <;> rfl
theorem lpick_take (l : List D) (k : Nat) : lpick l none (some (k : Int)) = l.take k := by
  unfold lpick sliceBounds
  simp only [Option.getD_none, show (1 : Int) > 0 from by decide, if_true]
  rw [if_neg (by omega), show (max 0 (min (k : Int) (l.length : Int))) = ((min k l.length : Nat) : Int) from by omega, show (0 : Int) = ((0 : Nat) : Int) from rfl, sliceRange_one, Nat.sub_zero, pick_range]
  rcases Nat.le_total k l.length with h | h
  · rw [Nat.min_eq_left h]
  · rw [Nat.min_eq_right h, List.take_of_length_le (Nat.le_refl _), List.take_of_length_le h]
theorem lpick_dropLast (l : List D) : lpick l none (some (-1)) = l.dropLast := by
  unfold lpick sliceBounds
  simp only [Option.getD_none, show (1 : Int) > 0 from by decide, if_true, show (-1 : Int) < 0 from by decide]
  rw [show (max 0 (min (-1 + (l.length : Int)) (l.length : Int))) = ((l.length - 1 : Nat) : Int) from by omega, show (0 : Int) = ((0 : Nat) : Int) from rfl, sliceRange_one, Nat.sub_zero, pick_range, List.dropLast_eq_take]

section
variable {A : Around} {E : Value → Shared → Prop} {s : Shared}
theorem adjust_to (b k : Nat) (h : b ≤ k) : Builtin.Slice.sliceAdjust none (some (b : Int)) 1 (k : Int) = (0, (b : Int)) := by
  unfold Builtin.Slice.sliceAdjust
  have h1 : ¬ ((1 : Int) < 0) := by omega
  have h2 : ¬ ((b : Int) < 0) := by omega
  simp only [h1, h2, if_false]
  congr 1
  omega
theorem places_to (b : Nat) : Builtin.Slice.slicePlaces 0 (b : Int) 1 = b := by
  unfold Builtin.Slice.slicePlaces
  have h1 : (1 : Int) > 0 := by omega
  simp only [h1, if_true, Int.ediv_one]
  split <;> omega
theorem sliceApplied_to {sl : Addr} {b k : Nat} {u : Tok} {Q : Int × Int × Nat → Shared → Prop} (hs : s.heap.IsSliceOf sl .none (.int b u) .none) (hb : b ≤ k) (h : Q (0, 1, b) s) :
    wpAny (model prog w) A (Builtin.Slice.sliceApplied (.ref sl) (pure (k : Int))) Q E s := by
  obtain ⟨os, hos, hcs, hds⟩ := id hs
  unfold Builtin.Slice.sliceApplied Builtin.Slice.sliceFields
  refine wpAny_bind (wpAny_bind (wpAny_field hos hds (x := .none) rfl (wpAny_bind (wpAny_field hos hds (x := .int b u) rfl (wpAny_bind (wpAny_field hos hds (x := .none) rfl (wpAny_pure ?_)))))))
  refine wpAny_bind (slicePart_none ?_)
  show wpAny _ _ (if ((1 : Int) == 0) = true then _ else _) _ _ s
  rw [if_neg (by decide)]
  refine wpAny_bind (slicePart_none (wpAny_bind (slicePart_int (wpAny_bind (wpAny_pure ?_)))))
  show wpAny _ _ (match Builtin.Slice.sliceAdjust none (some (b : Int)) 1 (k : Int) with | (lo, hi) => pure (lo, (1 : Int), Builtin.Slice.slicePlaces lo hi 1)) _ _ s
  rw [adjust_to b k hb]
  show wpAny _ _ (pure ((0 : Int), (1 : Int), Builtin.Slice.slicePlaces 0 (b : Int) 1)) _ _ s
  rw [places_to]
  exact wpAny_pure h
theorem getItem_tuple_to {t sl : Addr} {vs : List Value} {m b : Nat} {u : Tok} {Q : Value → Shared → Prop} (ht : IsTup s.heap t vs.toArray) (hs : s.heap.IsSliceOf sl .none (.int b u) .none) (hb : b < vs.length)
    (h : Q (.ref s.heap.objs.size) { s with heap := s.heap.push (tupO (vs.take b) 0) }) (hsz : vs.length ≤ sizeLine) : wpAny (model prog w) A (getItem (.ref t) (.ref sl)) Q E s := by
  obtain ⟨os, hos, hcs, hds⟩ := id hs
  have hTs : s.TypeIs (.ref sl) "slice" := ⟨os, hos, hcs⟩
  unfold getItem
  refine wpAny_holding ?_
  refine wpAny_bind (wpAny_sequenceKey ht.typeIs (by decide) ?_)
  refine wpAny_bind (wpAny_callSpecial?_slot (name := Str.ofString "__getitem__") ht.typeIs PyProof.Rows.slot_tuple_getitem
    (wpAny_call_entry PyProof.Rows.slot_tuple_getitem ht.typeIs PyProof.Rows.entry_tuple_getitem ?_ (PyProof.Rows.args_tuple_getitem _ _)))
  show wpAny _ _ (Builtin.Tuple.tupleItemsOf (.ref t) >>= _) _ _ s
  refine wpAny_bind (tupleItemsOf_ ht ?_)
  refine wpAny_bind (wpAny_typeOf hTs ?_)
  rw [if_pos (by decide)]
  refine wpAny_bind (sliceApplied_to hs (by rw [List.size_toArray]; omega) ?_)
  have hno : ¬ (((0 : Int) == 0 && (1 : Int) == 1 && b == vs.toArray.size) = true) := by
    have : (b == vs.toArray.size) = false := by rw [beq_eq_false_iff_ne, List.size_toArray]; omega
    rw [this]; simp
  show wpAny _ _ (if ((0 : Int) == 0 && (1 : Int) == 1 && b == vs.toArray.size) = true then _ else _) _ _ s
  rw [if_neg hno]
  have hp : ((List.range b).filterMap fun (k : Nat) => vs.toArray[((0 : Int) + (k : Int) * 1).toNat]?) = vs.take b := by
    clear hno h hb hs hds hos
    induction b with
    | zero => simp
    | succ b ih =>
      rw [List.range_succ, List.filterMap_append, ih, List.take_add_one]
      congr 1
      have : ((0 : Int) + (b : Int) * 1).toNat = b := by omega
      simp only [List.filterMap_cons, List.filterMap_nil, this, List.getElem?_toArray]
      cases vs[b]? <;> rfl
  rw [hp]
  have hd : sizeOk (.seq (vs.take b).toArray) := by
    show (vs.take b).toArray.size ≤ sizeLine
    rw [List.size_toArray, List.length_take]
    omega
  exact wpAny_bind (m := Builtin.Tuple.tupleExact _) (wpAny_newObj_type (wpAny_pure ⟨_, rfl, wpAny_pure h⟩) hd)
end
theorem op_slice_tup {value slice : Expr} {ds : List D} {b : Nat} (hb : b < ds.length) (hs : SubSlice slice := by intro _ _; with_unfolding_all rfl) :
    Op2 prog w s₀ n (subscriptTail value slice) (.tup ds) (.slc none (some (b : Int))) (.tup (ds.take b)) := by
  intro A Z R s u v ok W i j
  obtain ⟨_, _, _, rfl, ej, pl, pu⟩ := j.slc_inv
  ·
    obtain ⟨_, _, _, rfl, e, hz, ha⟩ := i.tup_inv
    ·
      rename_i sl vl vu l vs m
      cases pl
      cases pu with
      | int _ t =>
        have hl : IsTup s.heap l vs.toArray := ⟨_, W.frz _ _ e, rfl, _, rfl⟩
        have hsl : s.heap.IsSliceOf sl .none (.int b t) .none := ⟨_, W.frz _ _ ej, rfl, rfl⟩
        refine tail_any hl.typeIs PyProof.Rows.slot_tuple_getitem.lookup (getItem_tuple_to (m := m) hl hsl (by rw [ha.length]; exact hb) ?_ hz) (hs _ _)
        have hle : (vs.take b).length ≤ sizeLine := by rw [List.length_take]; omega
        exact newSeq (A := A) (vs := vs) (tupO _ 0) W rfl fun Z' l e => .tup e hle ((ha.take _).mono l)
end Mine
namespace Mine
open PySem PySem.Calls PySem.W PyProof.Rows
variable {prog : Program} {w : World} {s₀ : Shared} {n : Nat} {ad : Str → Addr} {env : Env} {σ : Sto}

/-! places -/
def pcs (ns : List (List Nat)) : List (List Nat) := [] :: (if ns = [] then [[]] else ns)
def pl (ns : List (List Nat)) : List Nat := 47 :: jn ns
theorem pl_eq (ns : List (List Nat)) : pl ns = jn (pcs ns) := by
  unfold pl pcs
  cases ns with
  | nil => rfl
  | cons x r => rw [if_neg (List.cons_ne_nil x r), jn_cons (x := []) (List.cons_ne_nil x r)]; rfl
/-- names as the law draws them -/
def Vn (p : List Nat) : Prop := p ≠ [] ∧ p ≠ [46] ∧ Free p
theorem pcs_ne (ns : List (List Nat)) : pcs ns ≠ [] := by simp [pcs]
theorem pcs_free {ns : List (List Nat)} (h : ∀ p ∈ ns, Vn p) : ∀ p ∈ pcs ns, Free p := by
  intro p hp
  unfold pcs at hp
  rcases List.mem_cons.mp hp with rfl | hp
  · exact List.not_mem_nil
  · split at hp
    · rw [List.mem_singleton.mp hp]; exact List.not_mem_nil
    · exact (h p hp).2.2
theorem pcs_wt (ns : List (List Nat)) : wt (pcs ns) ≤ wt ns + 2 := by
  unfold pcs
  rw [wt_cons]
  split
  · simp [wt]
  · simp only [List.length_nil]; omega
def keepN (p : List Nat) : Bool := decide (p ≠ []) && decide (p ≠ [46])
theorem pcs_keep {ns : List (List Nat)} (h : ∀ p ∈ ns, Vn p) : (pcs ns).filter keepN = ns := by
  have h1 : ns.filter keepN = ns := List.filter_eq_self.mpr fun p hp => by simp [keepN, (h p hp).1, (h p hp).2.1]
  unfold pcs
  rw [List.filter_cons, if_neg (by simp [keepN])]
  split
  · rename_i h0; subst h0; rfl
  · exact h1
/-- the longest start in common -/
def cp : List (List Nat) → List (List Nat) → List (List Nat)
  | x :: xs, y :: ys => if x = y then x :: cp xs ys else []
  | _, _ => []
theorem cp_comm : ∀ a b, cp a b = cp b a
  | [], [] => rfl
  | [], _ :: _ => rfl
  | _ :: _, [] => rfl
  | x :: xs, y :: ys => by
    unfold cp
    by_cases h : x = y
    · subst h; rw [if_pos rfl, if_pos rfl, cp_comm xs ys]
    · rw [if_neg h, if_neg (Ne.symm h)]
theorem cp_self : ∀ a, cp a a = a
  | [] => rfl
  | x :: xs => by unfold cp; rw [if_pos rfl, cp_self xs]
/-- no name of X stands past the end of Y -/
def Safe (X Y : List (List Nat)) : Prop := ∀ k, X.take k = Y.take k → k < X.length → k < Y.length
theorem safe_self (X : List (List Nat)) : Safe X X := fun _ _ h => h
theorem cp_at : ∀ (X Y : List (List Nat)) (k : Nat), X.take k = Y.take k → (k < X.length → k < Y.length ∧ X[k]? ≠ Y[k]?) → cp X Y = X.take k
  | [], Y, k, _, _ => by cases Y <;> simp [cp]
  | x :: xs, Y, 0, _, h2 => by
    obtain ⟨h3, h4⟩ := h2 (by simp)
    cases Y with
    | nil => simp at h3
    | cons y ys => unfold cp; rw [if_neg (by simpa using h4)]; rfl
  | x :: xs, [], k + 1, h1, _ => by simp at h1
  | x :: xs, y :: ys, k + 1, h1, h2 => by
    simp only [List.take_succ_cons, List.cons.injEq] at h1
    unfold cp
    rw [if_pos h1.1, cp_at xs ys k h1.2 (fun h => by simpa using h2 (by simpa using h))]
    rfl
theorem nat_tri (x y : List Nat) : x < y ∨ x = y ∨ y < x := by
  rcases Decidable.em (x < y) with h | h
  · exact .inl h
  · rcases Decidable.em (y < x) with h2 | h2
    · exact .inr (.inr h2)
    · exact .inr (.inl (List.le_antisymm (by simpa using h2) (by simpa using h)))
theorem strLt_S (x y : List Nat) : strLt (S x) (S y) = decide (x < y) := rfl
theorem lt_asy : ∀ (a b : List (List Nat)), ltL (a.map S) (b.map S) = true → ltL (b.map S) (a.map S) = false
  | [], [], _ => rfl
  | [], _ :: _, _ => rfl
  | _ :: _, [], h => nomatch h
  | x :: xs, y :: ys, h => by
    simp only [List.map_cons, ltL] at h ⊢
    by_cases hxy : x = y
    · subst hxy
      rw [if_pos rfl] at h ⊢
      exact lt_asy xs ys h
    · rw [if_neg (by simpa using hxy), strLt_S] at h
      rw [if_neg (by simpa using Ne.symm hxy), strLt_S]
      have h1 : x < y := by simpa using h
      have h2 : ¬ y < x := fun h2 => List.lt_irrefl x (List.lt_trans h1 h2)
      simpa using h2
theorem lt_tri : ∀ (a b : List (List Nat)), ltL (a.map S) (b.map S) = false → ltL (b.map S) (a.map S) = false → a = b
  | [], [], _, _ => rfl
  | [], _ :: _, h, _ => nomatch h
  | _ :: _, [], _, h => nomatch h
  | x :: xs, y :: ys, h, h' => by
    simp only [List.map_cons, ltL] at h h'
    by_cases hxy : x = y
    · subst hxy
      rw [if_pos rfl] at h h'
      rw [lt_tri xs ys h h']
    · rw [if_neg (by simpa using hxy), strLt_S] at h
      rw [if_neg (by simpa using Ne.symm hxy), strLt_S] at h'
      rcases nat_tri x y with h1 | h1 | h1
      · simp [h1] at h
      · exact (hxy h1).elim
      · simp [h1] at h'
theorem lt_safe : ∀ (a b : List (List Nat)), ltL (a.map S) (b.map S) = true → Safe a b
  | [], _, _ => fun k _ h => by simp at h
  | _ :: _, [], h => nomatch h
  | x :: xs, y :: ys, h => by
    intro k hk hlt
    cases k with
    | zero => simp
    | succ k =>
      simp only [List.take_succ_cons, List.cons.injEq] at hk
      simp only [List.map_cons, ltL] at h
      rw [if_pos (by simpa using hk.1)] at h
      have := lt_safe xs ys h k hk.2 (by simpa using hlt)
      simpa using this
/-- the least and the greatest of two -/
theorem minmax (a b : List (List Nat)) : ∃ X Y, (if ltL (b.map S) (a.map S) then b.map S else a.map S) = X.map S ∧ (if ltL (a.map S) (b.map S) then b.map S else a.map S) = Y.map S ∧ Safe X Y ∧ cp X Y = cp a b ∧
    (X = a ∨ X = b) ∧ (Y = a ∨ Y = b) := by
  cases h : ltL (b.map S) (a.map S) with
  | true =>
    refine ⟨b, a, if_pos rfl, ?_, lt_safe _ _ h, cp_comm _ _, .inr rfl, .inl rfl⟩
    rw [lt_asy _ _ h]; rfl
  | false =>
    cases h' : ltL (a.map S) (b.map S) with
    | true => exact ⟨a, b, rfl, if_pos rfl, lt_safe _ _ h', rfl, .inl rfl, .inr rfl⟩
    | false =>
      have := lt_tri _ _ h h'
      subst this
      exact ⟨b, b, rfl, rfl, safe_self _, rfl, .inl rfl, .inl rfl⟩
end Mine
namespace Mine
open PySem PySem.Calls PySem.W PyProof.Rows
variable {prog : Program} {w : World} {s₀ : Shared} {n : Nat} {ad : Str → Addr} {env : Env} {σ : Sto}

theorem ex_brk_weak {σ2 τ : Sto} {t : Sem Flow} (h : ∀ x lv, τ.lookup x = some lv → σ2.lookup x = some lv) (k : Ex prog w s₀ n env σ t (.brk σ2)) : Ex prog w s₀ n env σ t (.brk τ) := by
  intro A Z R Y s ok W P
  refine wpAny_mono (k A Z R Y s ok W P) ?_ fun _ _ x => x
  rintro f s' ⟨Z', Y', l, W', r⟩
  cases f with
  | brk => exact ⟨Z', Y', l, W', Pv.weak r h⟩
  | _ => exact r.elim
theorem compT_of {α : Type} {cenv : Env} {σf : Sto} {x : Str} {ifs : List Expr} {elt : Expr} (f : α → D) (keep : α → Bool) (g : α → D) : ∀ (items : List α), (∀ a ∈ items, EvB prog w s₀ n cenv ((x, .val (f a)) :: σf) (tests ifs cenv) (keep a)) →
    (∀ a ∈ items, keep a = true → Ev prog w s₀ n cenv ((x, .val (f a)) :: σf) (eval elt cenv) (g a)) → CompT prog w s₀ n cenv σf x ifs elt (items.map f) ((items.filter keep).map g)
  | [], _, _ => rfl
  | a :: r, h1, h2 => by
    have ih := compT_of f keep g r (fun b hb => h1 b (List.mem_cons_of_mem _ hb)) fun b hb => h2 b (List.mem_cons_of_mem _ hb)
    have h0 := h1 a List.mem_cons_self
    cases hk : keep a with
    | true =>
      rw [hk] at h0
      rw [List.filter_cons, if_pos hk]
      exact .inr ⟨h0, _, _, rfl, h2 a List.mem_cons_self hk, ih⟩
    | false =>
      rw [hk] at h0
      rw [List.filter_cons, if_neg (by simp [hk])]
      exact .inl ⟨h0, ih⟩
theorem compT_map {α : Type} {cenv : Env} {σf : Sto} {x : Str} {elt : Expr} (f : α → D) (g : α → D) (items : List α) (h : ∀ a ∈ items, Ev prog w s₀ n cenv ((x, .val (f a)) :: σf) (eval elt cenv) (g a)) : CompT prog w s₀ n cenv σf x [] elt (items.map f) (items.map g) := by
  have := compT_of (prog := prog) (w := w) (s₀ := s₀) (n := n) (cenv := cenv) (σf := σf) (x := x) (ifs := []) (elt := elt) f (fun _ => true) g items (fun _ _ => tests_nil) fun a ha _ => h a ha
  rwa [List.filter_eq_self.mpr fun _ _ => rfl] at this

theorem ocomp {scope : Scope} {cl : List (Str × Addr)} {C : Addr} (O : EnvOk env) (h : scope.kind = .function := by rfl) : EnvOk (compEnvC scope cl C env) := ⟨h, O.glob, O.blt⟩
theorem compT_of' {α : Type} {cenv : Env} {σf : Sto} {x : Str} {ifs : List Expr} {elt : Expr} {its rs : List D} (f : α → D) (keep : α → Bool) (g : α → D) (items : List α) (e1 : its = items.map f) (e2 : rs = (items.filter keep).map g)
    (h1 : ∀ a ∈ items, EvB prog w s₀ n cenv ((x, .val (f a)) :: σf) (tests ifs cenv) (keep a)) (h2 : ∀ a ∈ items, keep a = true → Ev prog w s₀ n cenv ((x, .val (f a)) :: σf) (eval elt cenv) (g a)) : CompT prog w s₀ n cenv σf x ifs elt its rs := by
  rw [e1, e2]; exact compT_of f keep g items h1 h2
theorem pcs_len {ns : List (List Nat)} (h : wt ns ≤ 300) : ∀ p ∈ pcs ns, p.length ≤ 1000 := by
  intro p hp
  have h1 := pcs_wt ns
  have key : ∀ (l : List (List Nat)), ∀ p ∈ l, p.length ≤ wt l := by
    intro l
    induction l with
    | nil => intro p hp; cases hp
    | cons q r ih =>
      intro p hp
      rw [wt_cons]
      rcases List.mem_cons.mp hp with rfl | hp
      · omega
      · have := ih p hp; omega
  have := key _ p hp
  omega
abbrev nD (ns : List (List Nat)) : D := .lst ((ns.map S).map .str)
theorem op_take {value slice : Expr} {X : List (List Nat)} {k : Nat} (hs : SubSlice slice := by intro _ _; with_unfolding_all rfl) : Op2 prog w s₀ n (subscriptTail value slice) (nD X) (.slc none (some (k : Int))) (nD (X.take k)) := by
  have := op_slice_lst (prog := prog) (w := w) (s₀ := s₀) (n := n) (value := value) (slice := slice) (ds := (X.map S).map .str) (lo := none) (hi := some (k : Int)) hs
  rw [lpick_take, ← List.map_take, ← List.map_take] at this
  exact this
theorem forT_enum {target : Expr} {body : List Stmt} {X Y : List (List Nat)} (hs : Safe X Y) (st : List (List Nat) → Sto)
    (same : ∀ (k : Nat) p, X[k]? = some p → Y[k]? = some p → ∃ σ1, Asg prog w s₀ n env (st X) (assign target env) (.tup [.int (k : Int), .str (S p)]) σ1 ∧ ∃ σ2, Ex prog w s₀ n env σ1 (execs body env) (.next σ2) ∧ ∀ y lv, (st X).lookup y = some lv → σ2.lookup y = some lv)
    (diff : ∀ (k : Nat) p q, X[k]? = some p → Y[k]? = some q → p ≠ q → ∃ σ1, Asg prog w s₀ n env (st X) (assign target env) (.tup [.int (k : Int), .str (S p)]) σ1 ∧ Ex prog w s₀ n env σ1 (execs body env) (.brk (st (X.take k)))) :
    ForT prog w s₀ n env target body (((X.map S).map D.str).zipIdx.map fun p => .tup [.int (p.2 : Int), p.1]) (st X) (.next (st (cp X Y))) := by
  have key : ∀ (rest : List (List Nat)) (k : Nat), X.drop k = rest → k ≤ X.length → X.take k = Y.take k → ForT prog w s₀ n env target body ((((rest.map S).map D.str).zipIdx k).map fun p => .tup [.int (p.2 : Int), p.1]) (st X) (.next (st (cp X Y))) := by
    intro rest
    induction rest with
    | nil =>
      intro k hd hk ht
      have hk2 : k = X.length := by have := congrArg List.length hd; simp at this; omega
      show _ = _
      rw [cp_at X Y k ht (fun h => by omega), hk2, List.take_length]
    | cons p rest ih =>
      intro k hd hk ht
      have hlt : k < X.length := by
        have := congrArg List.length hd
        rw [List.length_drop, List.length_cons] at this; omega
      have hp : X[k]? = some p := by rw [← List.head?_drop, hd]; rfl
      have hd' : X.drop (k + 1) = rest := by rw [← List.tail_drop, hd]; rfl
      have hlt2 := hs k ht hlt
      have hq : Y[k]? = some Y[k] := List.getElem?_eq_getElem hlt2
      rw [List.map_cons, List.map_cons, List.zipIdx_cons, List.map_cons]
      by_cases hpq : p = Y[k]
      · obtain ⟨σ1, h1, σ2, h2, h3⟩ := same k p hp (by rw [hq, hpq])
        refine ⟨σ1, h1, .inl ⟨σ2, st X, .inl h2, h3, ih (k + 1) hd' hlt ?_⟩⟩
        rw [List.take_add_one, List.take_add_one, ht, hp, hq, hpq]
      · obtain ⟨σ1, h1, h2⟩ := diff k p Y[k] hp hq hpq
        refine ⟨σ1, h1, .inr (.inl ⟨_, h2, ?_⟩)⟩
        rw [cp_at X Y k ht fun _ => ⟨hlt2, by rw [hp, hq]; simpa using hpq⟩]
  exact key X 0 rfl (Nat.zero_le _) rfl
theorem cp_wt : ∀ a b, wt (cp a b) ≤ wt a
  | [], [] => Nat.le_refl _
  | [], _ :: _ => Nat.le_refl _
  | _ :: _, [] => Nat.zero_le _
  | x :: xs, y :: ys => by
    unfold cp
    split
    · rw [wt_cons, wt_cons]; have := cp_wt xs ys; omega
    · exact Nat.zero_le _
theorem c_commonpath (G : Gd s₀ ad) {a b : List (List Nat)} (ha : ∀ p ∈ a, Vn p) (hb : ∀ p ∈ b, Vn p) (hza : wt a ≤ 300) (hzb : wt b ≤ 300) :
    CallT prog w s₀ (n + 3) (.ref (ad r13.name)) [.lst [.str (S (pl a)), .str (S (pl b))]] (.str (S (pl (cp a b)))) := by
  refine call_def [(Str.ofString "paths", .val (.lst [.str (S (pl a)), .str (S (pl b))]))] (f13 G) (defOk1 (by decide) rfl fun _ _ _ _ => by with_unfolding_all rfl) rfl fun L code O => ?_
  conv => arg 7; arg 1; whnf
  have hw1 := pcs_wt a
  have hw2 := pcs_wt b
  have hsa : ∀ n, CallT prog w s₀ n (.builtin "str.split") [.str (S (pl a)), .str sl] (nD (pcs a)) := fun n => pl_eq a ▸ ct_split_S (pcs_ne a) (pcs_free ha) (by omega)
  have hsb : ∀ n, CallT prog w s₀ n (.builtin "str.split") [.str (S (pl b)), .str sl] (nD (pcs b)) := fun n => pl_eq b ▸ ct_split_S (pcs_ne b) (pcs_free hb) (by omega)
  refine ex_cons (ex_assign (ev_tuple_map (rs := [.str (S (pl a)), .str (S (pl b))]) (bty O G) (bty O G) (gl O (g6 G)) (nm O) (fun k hk d r e1 e2 => ?_) rfl (by show 2 ≤ 1000; decide)) (asg_name O)) ?_
  · have e3 : d = r := by rw [e1] at e2; cases e2; rfl
    subst e3
    rcases k with _ | _ | k
    · cases e1; exact c_fspath G _
    · cases e1; exact c_fspath G _
    · cases e1
  refine ex_cons (ex_if_false (evB_not (b := true) (evB_val (by rfl) (nm O) (tru_tup (by rfl))) rfl) ex_nil) ?_
  refine ex_cons (ex_if_false (evB_val (by rfl) (ev_call_bi (bbi O G) (evl_cons (ev_sub (nm O) ev_int (op_item_tup (d := .str (S (pl a))) (by decide) (by rfl))) (evl_cons (bty O G) evl_nil)) ct_isi_str_bytes) tru_bool)
    (ex_cons (ex_assign ev_str (asg_name O)) (ex_cons (ex_assign ev_str (asg_name O)) ex_nil))) ?_
  refine ex_stop (ex_try ?_)
  refine ex_cons (ex_assign_comp (rs := [nD (pcs a), nD (pcs b)]) [(Str.ofString "sep", .val (.str sl))] O (nm O) src_tup (.cons rfl .nil) (fun cl C => ?_) (by show 2 ≤ sizeLine; decide)) ?_
  · exact .inr ⟨tests_nil, _, _, rfl, ev_meth mk_split (nm (ocomp O)) (by rfl) (evl_cons (nm (ocomp O)) evl_nil) (hsa _), .inr ⟨tests_nil, _, _, rfl, ev_meth mk_split (nm (ocomp O)) (by rfl) (evl_cons (nm (ocomp O)) evl_nil) (hsb _), rfl⟩⟩
  refine ex_cons (ex_try (ex_cons (ex_setcomp [(Str.ofString "sep", .val (.str sl))] O (nm O) src_tup (by simp) (.cons rfl .nil) (fun cl C d hd => ?_)) ex_nil)) ?_
  · have hst : ∀ ns, Txt.startswith (S (pl ns)) sl = true := fun ns => by rw [starts_S]; rfl
    have hd' : d = .str (S (pl a)) ∨ d = .str (S (pl b)) := by simpa using hd
    rcases hd' with h | h
    · subst h; exact ev_meth mk_startswith (nm (ocomp O)) (by rfl) (evl_cons (nm (ocomp O)) evl_nil) (hst a ▸ ct_startswith)
    · subst h; exact ev_meth mk_startswith (nm (ocomp O)) (by rfl) (evl_cons (nm (ocomp O)) evl_nil) (hst b ▸ ct_startswith)
  refine ex_cons (ex_assign_comp (rs := [nD a, nD b]) [(Str.ofString "curdir", .val (.str (S [46])))] O (nm O) src_lst (.cons rfl .nil) (fun cl C => ?_) (by show 2 ≤ sizeLine; decide)) ?_
  · refine .inr ⟨tests_nil, _, _, rfl, ev_listcomp (rs := ((a.map S).map .str)) [(Str.ofString "curdir", .val (.str (S [46])))] (ocomp O) (nm (ocomp O)) src_lst (.cons rfl .nil) (fun cl2 C2 => ?_) ?_, .inr ⟨tests_nil, _, _, rfl, ev_listcomp (rs := ((b.map S).map .str)) [(Str.ofString "curdir", .val (.str (S [46])))] (ocomp O) (nm (ocomp O)) src_lst (.cons rfl .nil) (fun cl2 C2 => ?_) ?_, rfl⟩⟩
    · refine compT_of' (fun p => D.str (S p)) keepN (fun p => D.str (S p)) (pcs a) (by rw [List.map_map]; rfl) (by rw [pcs_keep ha, List.map_map]; rfl) (fun p hp => ?_) fun p hp _ => nm (ocomp (ocomp O))
      have hpl := pcs_len hza p hp
      by_cases h1 : p = []
      · subst h1
        exact tests_one (evB_bool (evB_cons_stop (b := false) (evB_val (by rfl) (nm (ocomp (ocomp O))) (tru_S (l := []) (by decide) rfl)) rfl))
      · have hp0 : true = (p.length != 0) := by cases p with
          | nil => exact (h1 rfl).elim
          | cons => rfl
        by_cases h2 : p = [46]
        · subst h2
          exact tests_one (evB_bool (evB_cons_go (b := true) (evB_val (by rfl) (nm (ocomp (ocomp O))) (tru_S (l := [46]) hpl hp0)) rfl (evB_cons_stop (b := false) (evB_compare (nm (ocomp (ocomp O))) (nm (ocomp (ocomp O))) (op_neS (by rfl))) rfl)))
        · have hk : keepN p = true := by simp [keepN, h1, h2]
          rw [hk]
          exact tests_one (evB_bool (evB_cons_go (b := true) (evB_val (by rfl) (nm (ocomp (ocomp O))) (tru_S (l := p) hpl hp0)) rfl (evB_cons_go (b := true) (evB_compare (nm (ocomp (ocomp O))) (nm (ocomp (ocomp O))) (op_neS (by simp [h2]))) rfl (evB_nil rfl))))
    · have := wt_len a
      rw [List.length_map, List.length_map, sizeLine_eq]; omega
    · refine compT_of' (fun p => D.str (S p)) keepN (fun p => D.str (S p)) (pcs b) (by rw [List.map_map]; rfl) (by rw [pcs_keep hb, List.map_map]; rfl) (fun p hp => ?_) fun p hp _ => nm (ocomp (ocomp O))
      have hpl := pcs_len hzb p hp
      by_cases h1 : p = []
      · subst h1
        exact tests_one (evB_bool (evB_cons_stop (b := false) (evB_val (by rfl) (nm (ocomp (ocomp O))) (tru_S (l := []) (by decide) rfl)) rfl))
      · have hp0 : true = (p.length != 0) := by cases p with
          | nil => exact (h1 rfl).elim
          | cons => rfl
        by_cases h2 : p = [46]
        · subst h2
          exact tests_one (evB_bool (evB_cons_go (b := true) (evB_val (by rfl) (nm (ocomp (ocomp O))) (tru_S (l := [46]) hpl hp0)) rfl (evB_cons_stop (b := false) (evB_compare (nm (ocomp (ocomp O))) (nm (ocomp (ocomp O))) (op_neS (by rfl))) rfl)))
        · have hk : keepN p = true := by simp [keepN, h1, h2]
          rw [hk]
          exact tests_one (evB_bool (evB_cons_go (b := true) (evB_val (by rfl) (nm (ocomp (ocomp O))) (tru_S (l := p) hpl hp0)) rfl (evB_cons_go (b := true) (evB_compare (nm (ocomp (ocomp O))) (nm (ocomp (ocomp O))) (op_neS (by simp [h2]))) rfl (evB_nil rfl))))
    · have := wt_len b
      rw [List.length_map, List.length_map, sizeLine_eq]; omega
  obtain ⟨X, Y, hX, hY, hsf, hcp, hXa, hYb⟩ := minmax a b
  have cmin : ∀ n, CallT prog w s₀ n (.builtin "min") [.lst [nD a, nD b]] (nD X) := fun n => by
    have := ct_min (prog := prog) (w := w) (s₀ := s₀) (n := n) (xs := a.map S) (ys := b.map S)
    rw [hX] at this
    exact this
  have cmax : ∀ n, CallT prog w s₀ n (.builtin "max") [.lst [nD a, nD b]] (nD Y) := fun n => by
    have := ct_max (prog := prog) (w := w) (s₀ := s₀) (n := n) (xs := a.map S) (ys := b.map S)
    rw [hY] at this
    exact this
  have hwX : wt X ≤ 300 := by rcases hXa with h | h <;> rw [h] <;> assumption
  refine ex_cons (ex_assign (ev_call_bi (bbi O G) (evl_cons (nm O) evl_nil) (cmin _)) (asg_name O)) ?_
  refine ex_cons (ex_assign (ev_call_bi (bbi O G) (evl_cons (nm O) evl_nil) (cmax _)) (asg_name O)) ?_
  refine ex_cons (ex_assign (nm O) (asg_name O)) ?_
  let st : List (List Nat) → Sto := fun c => [(Str.ofString "sep", .val (.str sl)), (Str.ofString "isabs", .val (.bool true)), (Str.ofString "s1", .val (nD X)), (Str.ofString "s2", .val (nD Y)), (Str.ofString "common", .val (nD c))]
  refine ex_weak (SubL.all (τ := st X) (.cons rfl (.cons rfl (.cons rfl (.cons rfl (.cons rfl .nil)))))) ?_
  refine ex_cons (σ1 := st (cp X Y)) (ex_forE (srcE_enum (bty O G) (nm O)) ?_) ?_
  · refine forT_enum hsf st (fun k p e1 e2 => ⟨_, asg_tuple (asgl_cons (asg_name O) (asgl_cons (asg_name O) asgl_nil)), _, ex_cons (ex_if_false (evB_compare (nm O) (ev_sub (nm O) (nm O) (op_item_lst (d := .str (S p)) (by omega) (by simp [e2]))) (op_neS (by simp))) ex_nil) ex_nil, ?_⟩)
      (fun k p q e1 e2 hpq => ⟨_, asg_tuple (asgl_cons (asg_name O) (asgl_cons (asg_name O) asgl_nil)), ?_⟩)
    · exact SubL.all (.cons rfl (.cons rfl (.cons rfl (.cons rfl (.cons rfl .nil)))))
    · refine ex_stop (ex_if_true (evB_compare (nm O) (ev_sub (nm O) (nm O) (op_item_lst (d := .str (S q)) (by omega) (by simp [e2]))) (op_neS (by simp [hpq]))) ?_)
      refine ex_cons (ex_assign (ev_sub (nm O) (ev_slice (lo := none) (hi := some (k : Int)) trivial (nm O)) (op_take (X := X) (k := k))) (asg_name O)) (ex_stop (ex_brk_weak ?_ ex_break))
      exact SubL.all (.cons rfl (.cons rfl (.cons rfl (.cons rfl (.cons rfl .nil)))))
  refine ex_cons (ex_assign (ev_ifexp_true (evB_val (by rfl) (nm O) tru_bool) (nm O)) (asg_name O)) ?_
  have hwc : wt (cp X Y) ≤ 300 := Nat.le_trans (cp_wt X Y) hwX
  have hl := jn_le (cp X Y)
  rw [← hcp]
  exact ex_stop (ex_return (ev_binop (nm O) (ev_meth mk_join (nm O) (by rfl) (evl_cons (nm O) evl_nil) (ct_join_S (ps := cp X Y) (by omega))) (op_app (a := [47]) (by simp only [List.length_cons, List.length_nil]; omega))))
end Mine
namespace Mine
open PySem PySem.Calls PySem.W PyProof.Rows
variable {prog : Program} {w : World} {s₀ : Shared} {n : Nat} {ad : Str → Addr} {env : Env} {σ : Sto}

theorem jn_last : ∀ {m : List (List Nat)}, m ≠ [] → (∀ p ∈ m, Vn p) → jn m ≠ [] ∧ (jn m).getLast? ≠ some 47
  | [], h, _ => (h rfl).elim
  | [x], _, hv => by
    have h := hv x List.mem_cons_self
    exact ⟨h.1, fun e => h.2.2 (List.mem_of_getLast? e)⟩
  | x :: y :: r, _, hv => by
    have ih := jn_last (m := y :: r) (by simp) fun p hp => hv p (List.mem_cons_of_mem _ hp)
    rw [jn_cons (by simp)]
    refine ⟨by simp, ?_⟩
    rw [List.getLast?_append, List.getLast?_cons]
    obtain ⟨h1, h2⟩ := ih
    cases hq : (jn (y :: r)).getLast? with
    | none => exact (h1 (List.getLast?_eq_none_iff.mp hq)).elim
    | some c => rw [hq] at h2; simpa using h2
theorem c_dirname (G : Gd s₀ ad) {m : List (List Nat)} {x : List Nat} (hm : ∀ p ∈ m, Vn p) (hx : Free x) (hz : wt m + x.length ≤ 700) :
    CallT prog w s₀ (n + 2) (.ref (ad r11.name)) [.str (S (pl (m ++ [x])))] (.str (S (pl m))) := by
  have hl := jn_le m
  by_cases h0 : m = []
  · subst h0
    exact dir_walk G (a := []) hx (by show 0 + x.length ≤ 800; omega) (.inl ⟨rfl, rfl⟩)
  · have e : pl (m ++ [x]) = pl m ++ 47 :: x := by
      unfold pl; rw [jn_app h0 (by simp)]; rfl
    rw [e]
    obtain ⟨h1, h2⟩ := jn_last h0 hm
    have h3 : (pl m).getLast? ≠ some 47 := by
      unfold pl
      rw [List.getLast?_cons]
      cases hq : (jn m).getLast? with
      | none => exact (h1 (List.getLast?_eq_none_iff.mp hq)).elim
      | some c => rw [hq] at h2; simpa using h2
    refine dir_walk G hx (by unfold pl; rw [List.length_cons]; omega) (.inr ⟨fun h => h3 ?_, h3, rfl⟩)
    have h4 : ∀ c ∈ pl m ++ [47], c = 47 := by rw [h]; exact fun c hc => List.eq_of_mem_replicate hc
    have h5 : pl m ≠ [] := by unfold pl; simp
    rw [List.getLast?_eq_some_getLast h5, h4 _ (List.mem_append_left _ (List.getLast_mem h5))]
/-- the names of a place -/
def dec (s : Str) : List (List Nat) := ((Txt.split s sl).map fun x => x.cps.toList).filter keepN
theorem dec_pl {ns : List (List Nat)} (h : ∀ p ∈ ns, Vn p) : dec (S (pl ns)) = ns := by
  unfold dec
  rw [pl_eq, split_S (pcs_ne ns) (pcs_free h), List.map_map]
  have : ((fun x : Str => x.cps.toList) ∘ S) = id := rfl
  rw [this, List.map_id, pcs_keep h]
theorem pl_inj {a b : List (List Nat)} (ha : ∀ p ∈ a, Vn p) (hb : ∀ p ∈ b, Vn p) (h : S (pl a) = S (pl b)) : a = b := by rw [← dec_pl ha, ← dec_pl hb, h]
def abv (L : Nat) (s : Str) : Str := S (pl ((dec s).take L))
/-- a place of at most k names -/
def Pk (k : Nat) (s : Str) : Prop := ∃ ns, (∀ p ∈ ns, Vn p) ∧ ns.length ≤ k ∧ wt ns ≤ 300 ∧ s = S (pl ns)
theorem wt_take (ns : List (List Nat)) (k : Nat) : wt (ns.take k) ≤ wt ns := by
  have := wt_app (ns.take k) (ns.drop k)
  rw [List.take_append_drop] at this
  omega
theorem abv_pl {ns : List (List Nat)} (h : ∀ p ∈ ns, Vn p) (L : Nat) : abv L (S (pl ns)) = S (pl (ns.take L)) := by unfold abv; rw [dec_pl h]
theorem vn_take {ns : List (List Nat)} (h : ∀ p ∈ ns, Vn p) (L : Nat) : ∀ p ∈ ns.take L, Vn p := fun p hp => h p (List.mem_of_mem_take hp)
theorem Pk.abv {k : Nat} {s : Str} (h : Pk k s) (L : Nat) : Pk L (abv L s) := by
  obtain ⟨ns, h1, h2, h3, rfl⟩ := h
  rw [abv_pl h1]
  exact ⟨_, vn_take h1 L, by rw [List.length_take]; omega, Nat.le_trans (wt_take _ _) h3, rfl⟩
theorem abv_abv {k : Nat} {s : Str} (h : Pk k s) (L : Nat) : Mine.abv L (Mine.abv (L + 1) s) = Mine.abv L s := by
  obtain ⟨ns, h1, h2, h3, rfl⟩ := h
  rw [abv_pl h1, abv_pl (vn_take h1 _), abv_pl h1, List.take_take, Nat.min_eq_left (Nat.le_succ L)]
theorem c_above (G : Gd s₀ ad) {L : Nat} {s : Str} (h : Pk (L + 1) s) : CallT prog w s₀ (n + 3) (.ref (ad r17.name)) [.str s, .int L] (.str (abv L s)) := by
  obtain ⟨ns, h1, h2, h3, rfl⟩ := h
  rw [abv_pl h1]
  have hcount : Txt.count (S (pl ns)) sl = ((pcs ns).length : Int) - 1 := by rw [pl_eq]; exact count_jn (pcs_ne ns) (pcs_free h1)
  refine call_def [(Str.ofString "place", .val (.str (S (pl ns)))), (Str.ofString "level", .val (.int L))] (f17 G) (defOk2 (by decide) rfl fun _ _ _ _ _ => by with_unfolding_all rfl) rfl fun L' code O => ?_
  conv => arg 7; arg 1; whnf
  have hc : Op2 prog w s₀ (n + 2) (compareOp .Gt) (.int (Txt.count (S (pl ns)) sl)) (.int L) (.bool (decide (((pcs ns).length : Int) - 1 > L))) := hcount ▸ op_gt_int
  by_cases hlt : ns.length ≤ L ∧ (ns ≠ [] ∨ 0 < L)
  · have : decide (((pcs ns).length : Int) - 1 > L) = false := by
      unfold pcs
      rw [decide_eq_false_iff_not, List.length_cons]
      split
      · rename_i h0; subst h0; simp at hlt ⊢; omega
      · omega
    rw [this] at hc
    rw [List.take_of_length_le hlt.1]
    exact ex_stop (ex_return (ev_ifexp_false (evB_compare (ev_meth mk_count (nm O) (by rfl) (evl_cons ev_str evl_nil) ct_count) (nm O) hc) (nm O)))
  · have hd : CallT prog w s₀ (n + 2) (.ref (ad r11.name)) [.str (S (pl ns))] (.str (S (pl (ns.take L)))) := by
      rcases List.eq_nil_or_concat ns with h0 | ⟨m, x, h0⟩
      · subst h0
        rw [List.take_nil]
        exact dir_walk G (a := []) (x := []) List.not_mem_nil (by decide) (.inl ⟨rfl, rfl⟩)
      · rw [List.concat_eq_append] at h0
        subst h0
        have hL : L = m.length := by
          rw [List.length_append, List.length_singleton] at h2 hlt
          have : ¬ (m.length + 1 ≤ L) := fun h => hlt ⟨h, .inl (by simp)⟩
          omega
        rw [hL, List.take_left]
        rw [wt_app, wt_cons] at h3
        exact c_dirname G (fun p hp => h1 p (List.mem_append_left _ hp)) (h1 x (by simp)).2.2 (by omega)
    have : decide (((pcs ns).length : Int) - 1 > L) = true := by
      unfold pcs
      rw [decide_eq_true_iff, List.length_cons]
      split
      · rename_i h0; subst h0
        simp at hlt ⊢; omega
      · rename_i h0
        have : ¬ ns.length ≤ L := fun h => hlt ⟨h, .inl h0⟩
        omega
    rw [this] at hc
    exact ex_stop (ex_return (ev_ifexp_true (evB_compare (ev_meth mk_count (nm O) (by rfl) (evl_cons ev_str evl_nil) ct_count) (nm O) hc) (ev_call_fn (gl O (g11 G)) (evl_cons (nm O) evl_nil) (f11 G).is hd)))
end Mine
namespace Mine
open PySem PySem.Calls PySem.W PyProof.Rows
variable {prog : Program} {w : World} {s₀ : Shared} {n : Nat} {ad : Str → Addr} {env : Env} {σ : Sto}

def v0 : V4 := ⟨0, 0, 0, 0⟩
def vsum (l : List V4) : V4 := l.foldr vadd v0
def tot (b : Bool) (l : List V4) : D := if l = [] then .int 0 else cD b (vsum l)
def cmp (i : Nat) (v : V4) : Int := [v.a, v.b, v.c, v.d].getD i 0
theorem vsum_cmp (l : List V4) : (l.map (cmp 0)).sum = (vsum l).a ∧ (l.map (cmp 1)).sum = (vsum l).b ∧ (l.map (cmp 2)).sum = (vsum l).c ∧ (l.map (cmp 3)).sum = (vsum l).d := by
  induction l with
  | nil => exact ⟨rfl, rfl, rfl, rfl⟩
  | cons v l ih =>
    simp only [List.map_cons, List.sum_cons, ih]
    exact ⟨rfl, rfl, rfl, rfl⟩
theorem c_total (G : Gd s₀ ad) (b : Bool) {cs : List V4} (hz : cs.length ≤ 1000) : CallT prog w s₀ (n + 1) (.ref (ad r19.name)) [.lst (cs.map (cD b))] (tot b cs) := by
  refine call_def [(Str.ofString "counts", .val (.lst (cs.map (cD b))))] (f19 G) (defOk1 (by decide) rfl fun _ _ _ _ => by with_unfolding_all rfl) rfl fun L code O => ?_
  conv => arg 7; arg 1; whnf
  by_cases h0 : cs = []
  · subst h0
    refine ex_stop (ex_if_true (evB_bool (evB_cons_stop (b := true) (evB_compare (nm O) (ev_list evl_nil) (op_eq_nil rfl)) rfl)) (ex_stop (ex_return ?_)))
    exact ev_call_bi (bbi O G) (evl_cons (nm O) evl_nil) (ct_sum (is := []))
  · obtain ⟨v, r, h1⟩ : ∃ v r, cs = v :: r := by cases cs with
      | nil => exact (h0 rfl).elim
      | cons v r => exact ⟨v, r, rfl⟩
    have hlen : false = ((cs.map (cD b)).length == 0) := by rw [h1]; simp
    have hit : (cs.map (cD b))[(0 : Int).toNat]? = some (cD b v) := by rw [h1]; rfl
    have ht : tot b cs = cD b (vsum cs) := if_neg h0
    rw [ht]
    cases b with
    | true =>
      refine ex_stop (ex_if_true (evB_bool (evB_cons_go (b := false) (evB_compare (nm O) (ev_list evl_nil) (op_eq_nil hlen)) rfl (evB_cons_stop (b := true) (evB_val (by rfl) (ev_call_bi (bbi O G) (evl_cons (ev_sub (nm O) ev_int (op_item_lst (by decide) hit)) (evl_cons (bty O G) evl_nil)) ct_isi_int_int) tru_bool) rfl))) (ex_stop (ex_return ?_)))
      have e1 : cs.map (cD true) = (cs.map (cmp 0)).map .int := by rw [List.map_map]; rfl
      have e2 : cD true (vsum cs) = .int (cs.map (cmp 0)).sum := by rw [(vsum_cmp cs).1]; rfl
      rw [e2, e1]
      exact ev_call_bi (bbi O G) (evl_cons (nm O) evl_nil) ct_sum
    | false =>
      refine ex_cons (ex_if_false (evB_bool (evB_cons_go (b := false) (evB_compare (nm O) (ev_list evl_nil) (op_eq_nil hlen)) rfl (evB_cons_go (b := false) (evB_val (by rfl) (ev_call_bi (bbi O G) (evl_cons (ev_sub (nm O) ev_int (op_item_lst (by decide) hit)) (evl_cons (bty O G) evl_nil)) ct_isi_tup_int) tru_bool) rfl (evB_nil rfl)))) ex_nil) ?_
      have e2 : cD false (vsum cs) = .tup ((List.range 4).map fun i => D.int (cs.map (cmp i)).sum) := by
        obtain ⟨h1, h2, h3, h4⟩ := vsum_cmp cs
        show D.tup [.int (vsum cs).a, .int (vsum cs).b, .int (vsum cs).c, .int (vsum cs).d] = D.tup [.int (cs.map (cmp 0)).sum, .int (cs.map (cmp 1)).sum, .int (cs.map (cmp 2)).sum, .int (cs.map (cmp 3)).sum]
        rw [h1, h2, h3, h4]
      rw [e2]
      refine ex_stop (ex_return (ev_call_ty (bty O G) (evl_cons (ev_listcomp [(Str.ofString "counts", .val (.lst (cs.map (cD false))))] O (ev_call_ty (bty O G) (evl_cons ev_int evl_nil) (ct_range (k := 4))) (src_rng (by decide)) (.cons rfl .nil) (fun cl C => ?_) (by rw [List.length_map, List.length_range]; decide)) evl_nil) ct_tuple_list))
      refine compT_map (fun (i : Nat) => D.int (i : Int)) (fun i => D.int (cs.map (cmp i)).sum) (List.range 4) fun i hi => ?_
      have hi4 := List.mem_range.mp hi
      have e3 : (cs.map fun v => D.int (cmp i v)) = (cs.map (cmp i)).map .int := by rw [List.map_map]; rfl
      refine ev_call_bi (bbi (ocomp O) G) (evl_cons (ev_listcomp (rs := (cs.map (cmp i)).map .int) [(Str.ofString "c", .val (.int (i : Int)))] (ocomp O) (nm (ocomp O)) src_lst (.cons rfl .nil) (fun cl2 C2 => e3 ▸ compT_map (cD false) (fun v => D.int (cmp i v)) cs fun v hv => ?_)
        (by rw [List.length_map, List.length_map, sizeLine_eq]; omega)) evl_nil) ct_sum
      refine ev_sub (nm (ocomp (ocomp O))) (nm (ocomp (ocomp O))) (op_item_tup (by omega) ?_)
      rw [Int.toNat_natCast]
      rcases i with _ | _ | _ | _ | i
      · rfl
      · rfl
      · rfl
      · rfl
      · omega
end Mine
namespace Mine
open PySem PySem.Calls PySem.W PyProof.Rows
variable {prog : Program} {w : World} {s₀ : Shared} {n : Nat} {ad : Str → Addr} {env : Env} {σ : Sto}

/-! the calls -/
abbrev Cl := Nat × Nat × V4
def clD (b : Bool) (c : Cl) : D := .tup [.int (c.1 : Int), .int (c.2.1 : Int), cD b c.2.2]
def dr1 (ns : List Int) (i : Nat) (p : Int × Int) : List Cl := if p.2 > 0 then [((p.1.fmod (ns.length : Int)).toNat, i, ⟨p.2, 1, (ns.getD i 0).fmod 100, -p.2⟩)] else []
def draws (ns : List Int) (i : Nat) : List (Int × Int) := [((i : Int) + 1, (ns.getD i 0 + (i : Int) + 1).fmod 3), (ns.getD i 0, ((ns.getD i 0).fdiv 3).fmod 3)]
def dr (ns : List Int) (acc : List Cl) (i : Nat) : List Cl := (draws ns i).foldl (fun acc p => acc ++ dr1 ns i p) acc
def mkCalls (ns : List Int) : List Cl := (List.range ns.length).foldl (dr ns) []
theorem dr1_len (ns : List Int) (i : Nat) (p : Int × Int) : (dr1 ns i p).length ≤ 1 := by unfold dr1; split <;> simp
theorem dr_len (ns : List Int) (acc : List Cl) (i : Nat) : (dr ns acc i).length ≤ acc.length + 2 := by
  unfold dr draws
  simp only [List.foldl_cons, List.foldl_nil, List.length_append]
  have h1 := dr1_len ns i ((i : Int) + 1, (ns.getD i 0 + (i : Int) + 1).fmod 3)
  have h2 := dr1_len ns i (ns.getD i 0, ((ns.getD i 0).fdiv 3).fmod 3)
  omega
theorem c_calls (G : Gd s₀ ad) (b : Bool) {ns : List Int} (hz : ns.length ≤ 100) : CallT prog w s₀ (n + 1) (.ref (ad r15.name)) [.lst (ns.map .int), .bool b] (.lst ((mkCalls ns).map (clD b))) := by
  refine call_def [(Str.ofString "numbers", .val (.lst (ns.map .int))), (Str.ofString "whole", .val (.bool b))] (f15 G) (defOk2 (by decide) rfl fun _ _ _ _ _ => by with_unfolding_all rfl) rfl fun L code O => ?_
  conv => arg 7; arg 1; whnf
  let st : List Cl → Sto := fun acc => [(Str.ofString "numbers", .val (.lst (ns.map .int))), (Str.ofString "whole", .val (.bool b)), (Str.ofString "calls", .own (.lst (acc.map (clD b))))]
  refine ex_cons (ex_new_list O) ?_
  have hlen : (ns.map D.int).length = ns.length := List.length_map ..
  refine ex_cons (ex_for_fold st (dr ns) (fun (i : Nat) => D.int (i : Int)) (fun acc rest => acc.length + 2 * rest.length ≤ 200 ∧ ∀ i ∈ rest, i < ns.length) (List.range ns.length) []
    (ev_call_ty (bty O G) (evl_cons (ev_call_bi (bbi O G) (evl_cons (nm O) evl_nil) (hlen ▸ ct_len_lst)) evl_nil) (ct_range (k := ns.length))) (src_rng (by omega)) rfl rfl ⟨by simp; omega, fun i hi => List.mem_range.mp hi⟩ fun acc i rest hI => ⟨⟨?_, fun j hj => hI.2 j (List.mem_cons_of_mem _ hj)⟩, _, asg_name O, ?_⟩) ?_
  · have := dr_len ns acc i
    have h1 := hI.1
    rw [List.length_cons] at h1
    omega
  · have hi := hI.2 i List.mem_cons_self
    have h1 := hI.1
    rw [List.length_cons] at h1
    have hx : (ns.map D.int)[((i : Nat) : Int).toNat]? = some (.int (ns.getD i 0)) := by simp [hi]
    let st2 : List Cl → Sto := fun acc => [(Str.ofString "numbers", .val (.lst (ns.map .int))), (Str.ofString "whole", .val (.bool b)), (Str.ofString "calls", .own (.lst (acc.map (clD b)))), (Str.ofString "callee", .val (.int (i : Int))), (Str.ofString "number", .val (.int (ns.getD i 0)))]
    refine ⟨st2 (dr ns acc i), .inl (ex_cons (ex_assign (ev_sub (nm O) (nm O) (op_item_lst (by omega) hx)) (asg_name O)) (ex_cons (ex_for_fold st2 (fun acc p => acc ++ dr1 ns i p) (fun p => D.tup [.int p.1, .int p.2]) (fun acc2 rest2 => acc2.length + rest2.length ≤ 300) (draws ns i) acc
      (ev_list (evl_cons (ev_tuple (evl_cons (ev_binop (nm O) ev_int op_add_int) (evl_cons (ev_binop (ev_binop (ev_binop (nm O) (nm O) op_add_int) ev_int op_add_int) ev_int (op_mod_int (by decide))) evl_nil)) (by show 2 ≤ sizeLine; decide))
        (evl_cons (ev_tuple (evl_cons (nm O) (evl_cons (ev_binop (ev_binop (nm O) ev_int (op_div_int (by decide) (by decide))) ev_int (op_mod_int (by decide))) evl_nil)) (by show 2 ≤ sizeLine; decide)) evl_nil)) (by show 2 ≤ sizeLine; decide)) src_lst rfl rfl (by show _ + 2 ≤ 300; omega) fun acc2 p rest2 hI2 => ⟨?_, _, asg_tuple (asgl_cons (asg_name O) (asgl_cons (asg_name O) asgl_nil)), ?_⟩) ex_nil)), ?_⟩
    · have := dr1_len ns i p
      rw [List.length_cons] at hI2
      rw [List.length_append]; omega
    · rw [List.length_cons] at hI2
      by_cases hp : p.2 > 0
      · have hd : dr1 ns i p = [((p.1.fmod (ns.length : Int)).toNat, i, ⟨p.2, 1, (ns.getD i 0).fmod 100, -p.2⟩)] := if_pos hp
        have hn0 : (ns.length : Int) ≠ 0 := by omega
        have hmod : (((p.1.fmod (ns.length : Int)).toNat : Nat) : Int) = p.1.fmod (ns.length : Int) := Int.toNat_of_nonneg (Int.fmod_nonneg_of_pos _ (by omega))
        have hacc : (acc2.map (clD b)).length < sizeLine := by rw [List.length_map, sizeLine_eq]; omega
        rw [hd]
        have e2 : (acc2 ++ [((p.1.fmod (ns.length : Int)).toNat, i, (⟨p.2, 1, (ns.getD i 0).fmod 100, -p.2⟩ : V4))]).map (clD b) = acc2.map (clD b) ++ [D.tup [.int (p.1.fmod (ns.length : Int)), .int (i : Int), cD b ⟨p.2, 1, (ns.getD i 0).fmod 100, -p.2⟩]] := by
          rw [List.map_append]; show _ ++ [D.tup [.int (((p.1.fmod (ns.length : Int)).toNat : Nat) : Int), _, _]] = _; rw [hmod]
        have hcond : decide (p.2 > 0) = true := decide_eq_true hp
        refine ⟨_, .inl (ex_cons (ex_if_true (evB_compare (nm O) ev_int (hcond ▸ op_gt_int)) (ex_cons (ex_assign (d := cD b ⟨p.2, 1, (ns.getD i 0).fmod 100, -p.2⟩) ?_ (asg_name O)) (ex_cons (ex_append O mk_append rfl (ev_tuple (evl_cons (ev_binop (nm O) (ev_call_bi (bbi O G) (evl_cons (nm O) evl_nil) (hlen ▸ ct_len_lst)) (op_mod_int hn0))
          (evl_cons (nm O) (evl_cons (nm O) evl_nil))) (by show 3 ≤ sizeLine; decide)) hacc) ex_nil))) ex_nil), ?_⟩
        · cases b with
          | true => exact ev_ifexp_true (evB_val (by rfl) (nm O) tru_bool) (nm O)
          | false => exact ev_ifexp_false (evB_val (by rfl) (nm O) tru_bool) (ev_tuple (evl_cons (nm O) (evl_cons ev_int (evl_cons (ev_binop (nm O) ev_int (op_mod_int (by decide))) (evl_cons (ev_unary (nm O) op_neg_int) evl_nil)))) (by show 4 ≤ sizeLine; decide))
        · exact SubL.all (.cons rfl (.cons rfl (.cons (by rw [e2]; rfl) (.cons rfl (.cons rfl .nil)))))
      · have hd : dr1 ns i p = [] := if_neg hp
        have hcond : decide (p.2 > 0) = false := decide_eq_false hp
        rw [hd, List.append_nil]
        refine ⟨_, .inl (ex_cons (ex_if_false (evB_compare (nm O) ev_int (hcond ▸ op_gt_int)) ex_nil) ex_nil), ?_⟩
        exact SubL.all (.cons rfl (.cons rfl (.cons rfl (.cons rfl (.cons rfl .nil)))))
    · exact SubL.all (.cons rfl (.cons rfl (.cons rfl .nil)))
  · exact ex_freeze (x := Str.ofString "calls") (d := .lst ((mkCalls ns).map (clD b))) rfl (ex_stop (ex_return (nm O)))
end Mine
namespace Mine
open PySem PySem.Calls PySem.W PyProof.Rows
variable {prog : Program} {w : World} {s₀ : Shared} {n : Nat} {ad : Str → Addr} {env : Env} {σ : Sto}

/-! the places drawn -/
abbrev Fl := List (List Nat) × V4
def fD (f : Fl) : D := .tup [.str (S (pl f.1)), nD f.1, cD false f.2]
def FlOk (f : Fl) : Prop := (∀ p ∈ f.1, Vn p) ∧ f.1.length ≤ 3 ∧ wt f.1 ≤ 300
def flAt (fs : List Fl) (i : Nat) : Fl := fs.getD i ([], v0)
theorem flAt_get {fs : List Fl} {i : Nat} (h : i < fs.length) : (fs.map fD)[((i : Nat) : Int).toNat]? = some (fD (flAt fs i)) := by simp [flAt, h]
theorem flAt_ok {fs : List Fl} (h : ∀ f ∈ fs, FlOk f) {i : Nat} (hi : i < fs.length) : FlOk (flAt fs i) := by
  have : flAt fs i = fs[i] := by simp [flAt, hi]
  rw [this]
  exact h _ (List.getElem_mem hi)
def ClOk (k : Nat) (c : Cl) : Prop := c.1 < k ∧ c.2.1 < k
def nrow (fs : List Fl) (c : Cl) : Nat × V4 := (if (flAt fs c.1).1 = (flAt fs c.2.1).1 then 3 else (cp (flAt fs c.1).1 (flAt fs c.2.1).1).length, c.2.2)
def nrD (b : Bool) (p : Nat × V4) : D := .tup [.int (p.1 : Int), cD b p.2]
theorem cp_vn : ∀ {a b : List (List Nat)}, (∀ p ∈ a, Vn p) → ∀ p ∈ cp a b, Vn p
  | [], b, _, p, hp => by cases b <;> cases hp
  | _ :: _, [], _, p, hp => by cases hp
  | x :: xs, y :: ys, h, p, hp => by
    unfold cp at hp
    split at hp
    · rcases List.mem_cons.mp hp with rfl | hp
      · exact h _ List.mem_cons_self
      · exact cp_vn (fun q hq => h q (List.mem_cons_of_mem _ hq)) p hp
    · cases hp
theorem pcs_keep2 {ns : List (List Nat)} (h : ∀ p ∈ ns, Vn p) : (pcs ns).filter (fun p => decide (p ≠ [])) = ns := by
  have h1 : ns.filter (fun p => decide (p ≠ [])) = ns := List.filter_eq_self.mpr fun p hp => by simp [(h p hp).1]
  unfold pcs
  rw [List.filter_cons, if_neg (by simp)]
  split
  · rename_i h0; subst h0; rfl
  · exact h1
theorem fold_map {α β : Type} (f : α → β) (l : List α) : l.foldl (fun acc c => acc ++ [f c]) [] = l.map f := by
  have key : ∀ (l : List α) (acc : List β), l.foldl (fun acc c => acc ++ [f c]) acc = acc ++ l.map f := by
    intro l
    induction l with
    | nil => intro acc; simp
    | cons x l ih => intro acc; rw [List.foldl_cons, ih]; simp
  rw [key]; rfl
theorem c_near (G : Gd s₀ ad) (b : Bool) {fs : List Fl} {cs : List Cl} (hf : ∀ f ∈ fs, FlOk f) (hc : ∀ c ∈ cs, ClOk fs.length c) (hz : cs.length ≤ 100) :
    CallT prog w s₀ (n + 4) (.ref (ad r21.name)) [.lst (fs.map fD), .lst (cs.map (clD b))] (.lst ((cs.map (nrow fs)).map (nrD b))) := by
  refine call_def [(Str.ofString "files", .val (.lst (fs.map fD))), (Str.ofString "calls", .val (.lst (cs.map (clD b))))] (f21 G) (defOk2 (by decide) rfl fun _ _ _ _ _ => by with_unfolding_all rfl) rfl fun L code O => ?_
  conv => arg 7; arg 1; whnf
  let st : List (Nat × V4) → Sto := fun acc => [(Str.ofString "files", .val (.lst (fs.map fD))), (Str.ofString "near", .own (.lst (acc.map (nrD b))))]
  let st0 : List (Nat × V4) → Sto := fun acc => [(Str.ofString "files", .val (.lst (fs.map fD))), (Str.ofString "calls", .val (.lst (cs.map (clD b)))), (Str.ofString "near", .own (.lst (acc.map (nrD b))))]
  refine ex_cons (ex_new_list O) ?_
  refine ex_cons (ex_for_fold st0 (fun acc c => acc ++ [nrow fs c]) (clD b) (fun acc rest => acc.length + rest.length ≤ 200 ∧ ∀ c ∈ rest, ClOk fs.length c) cs [] (nm O) src_lst rfl rfl ⟨by simp; omega, hc⟩ fun acc c rest hI =>
    ⟨⟨?_, fun c' hc' => hI.2 c' (List.mem_cons_of_mem _ hc')⟩, _, asg_tuple (asgl_cons (asg_name O) (asgl_cons (asg_name O) (asgl_cons (asg_name O) asgl_nil))), ?_⟩) ?_
  · have h1 := hI.1
    rw [List.length_cons] at h1
    rw [List.length_append, List.length_singleton]; omega
  · obtain ⟨h1, h2⟩ := hI.2 c List.mem_cons_self
    have hI1 := hI.1
    rw [List.length_cons] at hI1
    obtain ⟨a1, a2, a3⟩ := flAt_ok hf h1
    obtain ⟨b1, b2, b3⟩ := flAt_ok hf h2
    generalize ha : (flAt fs c.1).1 = a at *
    generalize hb : (flAt fs c.2.1).1 = d at *
    have hacc : (acc.map (nrD b)).length < sizeLine := by rw [List.length_map, sizeLine_eq]; omega
    have hcv : ∀ p ∈ cp a d, Vn p := cp_vn a1
    have hcw : wt (cp a d) ≤ 300 := Nat.le_trans (cp_wt a d) a3
    have hpw := pcs_wt (cp a d)
    have hcl := wt_len (cp a d)
    have hsp : ∀ n, CallT prog w s₀ n (.builtin "str.split") [.str (S (pl (cp a d))), .str sl] (nD (pcs (cp a d))) := fun n => pl_eq (cp a d) ▸ ct_split_S (pcs_ne _) (pcs_free hcv) (by omega)
    refine ⟨st0 (acc ++ [nrow fs c]), .inl (ex_cons (ex_assign_swapped (names := [Str.ofString "one", Str.ofString "two"]) (ds := [.str (S (pl a)), .str (S (pl d))]) (ev_tuple (evl_cons (ev_sub (ev_sub (nm O) (nm O) (op_item_lst (by omega) (flAt_get h1))) ev_int (op_item_tup (by decide) (ha ▸ rfl))) (evl_cons (ev_sub (ev_sub (nm O) (nm O) (op_item_lst (by omega) (flAt_get h2))) ev_int (op_item_tup (by decide) (hb ▸ rfl))) evl_nil)) (by show 2 ≤ sizeLine; decide)) (by rfl) rfl
      (asgl_cons (asg_bind O) (asgl_cons (asg_bind O) asgl_nil))) ?_), fun _ _ h => h⟩
    · have hq : ∀ (l : List (List Nat)), (l.map S).map D.str = l.map fun p => D.str (S p) := fun l => by rw [List.map_map]; rfl
      have hl2 : ((((cp a d).map S).map D.str).length : Int) = ((cp a d).length : Int) := by rw [List.length_map, List.length_map]
      refine ex_cons (ex_assign_comp (rs := ((cp a d).map S).map .str) [] O (ev_meth mk_split (ev_call_fn (gl O (g13 G)) (evl_cons (ev_list (evl_cons (nm O) (evl_cons (nm O) evl_nil)) (by show 2 ≤ sizeLine; decide)) evl_nil) (f13 G).is (c_commonpath G a1 b1 a3 b3)) (by rfl) (evl_cons ev_str evl_nil) (hsp _)) src_lst .nil (fun cl C => ?_)
        (by rw [List.length_map, List.length_map, sizeLine_eq]; omega)) ?_
      · refine compT_of' (fun p => D.str (S p)) (fun p => decide (p ≠ [])) (fun p => D.str (S p)) (pcs (cp a d)) (hq _) (by rw [pcs_keep2 hcv, hq]) (fun p hp => tests_one (evB_compare (nm (ocomp O)) ev_str (op_neS (b := []) rfl))) fun p hp _ => nm (ocomp O)
      · refine ex_cons (ex_append (d := nrD b (nrow fs c)) O mk_append rfl (ev_tuple (evl_cons (d := .int ((nrow fs c).1 : Int)) ?_ (evl_cons (nm O) evl_nil)) (by show 2 ≤ sizeLine; decide)) hacc) (ex_weak (SubL.all (.cons rfl (.cons rfl (.cons (by rw [show (acc ++ [nrow fs c]).map (nrD b) = acc.map (nrD b) ++ [nrD b (nrow fs c)] from by simp]; rfl) .nil)))) ex_nil)
        have hn : (nrow fs c).1 = if a = d then 3 else (cp a d).length := by unfold nrow; rw [ha, hb]
        by_cases hab : a = d
        · rw [hn, if_pos hab]
          exact ev_ifexp_true (evB_compare (nm O) (nm O) (op_eqS (by rw [hab]; simp))) ev_int
        · rw [hn, if_neg hab]
          have hne : pl a ≠ pl d := fun h => hab (pl_inj a1 b1 (by rw [h]))
          exact ev_ifexp_false (evB_compare (nm O) (nm O) (op_eqS (by simp [hne]))) (ev_call_bi (bbi O G) (evl_cons (nm O) evl_nil) (hl2 ▸ ct_len_lst))
  · rw [fold_map]
    exact ex_freeze (x := Str.ofString "near") (d := .lst ((cs.map (nrow fs)).map (nrD b))) rfl (ex_stop (ex_return (nm O)))
end Mine
namespace Mine
open PySem PySem.Calls PySem.W PyProof.Rows
variable {prog : Program} {w : World} {s₀ : Shared} {n : Nat} {ad : Str → Addr} {env : Env} {σ : Sto}

/-! the rows -/
abbrev Row := Str × V4 × Cs
def rwD (b : Bool) (r : Row) : D := .tup [.str r.1, rD b r.2.1 r.2.2]
theorem foldl_aset_len : ∀ (t m : Cs), (t.foldl (fun m p => aset m p.1 p.2) m).length ≤ m.length + t.length
  | [], m => Nat.le_refl _
  | p :: t, m => by
    have h1 := foldl_aset_len t (aset m p.1 p.2)
    have h2 := @aset_len _ m p.1 p.2
    rw [List.foldl_cons, List.length_cons]
    omega
theorem foldl_add1_len : ∀ (t m : Cs), (t.foldl add1 m).length ≤ m.length + t.length
  | [], m => Nat.le_refl _
  | p :: t, m => by
    have h1 := foldl_add1_len t (add1 m p)
    have h2 := @add1_len m p
    rw [List.foldl_cons, List.length_cons]
    omega
theorem addC_len (t s : Cs) : (addC t s).length ≤ t.length + s.length := by
  unfold addC
  exact Nat.le_trans (foldl_add1_len s _) (Nat.add_le_add_right (Nat.le_trans (foldl_aset_len t []) (by simp)) _)
def keyAt (fs : List Fl) (i : Nat) : Str := S (pl (flAt fs i).1)
def estep (fs : List Fl) (i : Nat) (acc : Cs) (c : Cl) : Cs := if c.2.1 = i then addC acc [(keyAt fs c.1, c.2.2)] else acc
def ecall (fs : List Fl) (cs : List Cl) (i : Nat) : Cs := cs.foldl (estep fs i) []
def mkRow (fs : List Fl) (cs : List Cl) (i : Nat) : Row := (keyAt fs i, (flAt fs i).2, ecall fs cs i)
def mkRows (fs : List Fl) (cs : List Cl) : List Row := (List.range fs.length).map (mkRow fs cs)
theorem c_entries (G : Gd s₀ ad) (b : Bool) {fs : List Fl} {cs : List Cl} (hzf : fs.length ≤ 100) (hc : ∀ c ∈ cs, ClOk fs.length c) (hz : cs.length ≤ 100) :
    CallT prog w s₀ (n + 2) (.ref (ad r16.name)) [.lst (fs.map fD), .lst (cs.map (clD b))] (.lst ((mkRows fs cs).map (rwD b))) := by
  refine call_def [(Str.ofString "files", .val (.lst (fs.map fD))), (Str.ofString "calls", .val (.lst (cs.map (clD b))))] (f16 G) (defOk2 (by decide) rfl fun _ _ _ _ _ => by with_unfolding_all rfl) rfl fun L code O => ?_
  conv => arg 7; arg 1; whnf
  let st : List Row → Sto := fun acc => [(Str.ofString "files", .val (.lst (fs.map fD))), (Str.ofString "calls", .val (.lst (cs.map (clD b)))), (Str.ofString "entries", .own (.lst (acc.map (rwD b))))]
  have hlen : (fs.map fD).length = fs.length := List.length_map ..
  refine ex_cons (ex_new_list O) ?_
  refine ex_cons (ex_for_fold st (fun acc i => acc ++ [mkRow fs cs i]) (fun (i : Nat) => D.int (i : Int)) (fun acc rest => acc.length + rest.length ≤ 200 ∧ ∀ i ∈ rest, i < fs.length) (List.range fs.length) []
    (ev_call_ty (bty O G) (evl_cons (ev_call_bi (bbi O G) (evl_cons (nm O) evl_nil) (hlen ▸ ct_len_lst)) evl_nil) (ct_range (k := fs.length))) (src_rng (by omega)) rfl rfl ⟨by simp; omega, fun i hi => List.mem_range.mp hi⟩ fun acc i rest hI =>
    ⟨⟨?_, fun j hj => hI.2 j (List.mem_cons_of_mem _ hj)⟩, _, asg_name O, ?_⟩) ?_
  · have h1 := hI.1
    rw [List.length_cons] at h1
    rw [List.length_append, List.length_singleton]; omega
  · have hi := hI.2 i List.mem_cons_self
    have hI1 := hI.1
    rw [List.length_cons] at hI1
    have hacc : (acc.map (rwD b)).length < sizeLine := by rw [List.length_map, sizeLine_eq]; omega
    let st2 : Cs → Sto := fun m => [(Str.ofString "files", .val (.lst (fs.map fD))), (Str.ofString "calls", .val (.lst (cs.map (clD b)))), (Str.ofString "entries", .own (.lst (acc.map (rwD b)))), (Str.ofString "callee", .val (.int (i : Int))), (Str.ofString "callers", .val (kD b m))]
    have hrow : (acc ++ [mkRow fs cs i]).map (rwD b) = acc.map (rwD b) ++ [rwD b (mkRow fs cs i)] := by simp
    refine ⟨st (acc ++ [mkRow fs cs i]), .inl (ex_cons (ex_assign ev_dict_nil (asg_name O)) (ex_cons (ex_for_fold st2 (estep fs i) (clD b) (fun m rest2 => m.length + rest2.length ≤ 200 ∧ ∀ c ∈ rest2, ClOk fs.length c) cs [] (nm O) src_lst rfl rfl ⟨by simp; omega, hc⟩
      fun m c rest2 hI2 => ⟨⟨?_, fun j hj => hI2.2 j (List.mem_cons_of_mem _ hj)⟩, _, asg_name O, ?_⟩) (ex_cons (ex_append (d := rwD b (mkRow fs cs i)) O mk_append rfl (ev_tuple (evl_cons (ev_sub (ev_sub (nm O) (nm O) (op_item_lst (by omega) (flAt_get hi))) ev_int (op_item_tup (by decide) (by rfl)))
        (evl_cons (ev_binop (ev_sub (ev_sub (nm O) (nm O) (op_item_lst (by omega) (flAt_get hi))) ev_int (op_item_tup (by decide) (by rfl))) (ev_tuple (evl_cons (nm O) evl_nil) (by show 1 ≤ sizeLine; decide)) (op_add_tup (a := [(flAt fs i).2.a, (flAt fs i).2.b, (flAt fs i).2.c, (flAt fs i).2.d].map .int) (by show 4 + 1 ≤ sizeLine; decide) (by simp) (by simp))) evl_nil)) (by show 2 ≤ sizeLine; decide)) hacc)
          (ex_weak (SubL.all (.cons rfl (.cons rfl (.cons (by rw [hrow]; rfl) .nil)))) ex_nil)))), fun _ _ h => h⟩
    · have h1 := hI2.1
      rw [List.length_cons] at h1
      unfold estep
      split
      · have := addC_len m [(keyAt fs c.1, c.2.2)]
        rw [List.length_singleton] at this
        omega
      · omega
    · obtain ⟨h1, h2⟩ := hI2.2 c List.mem_cons_self
      have hm := hI2.1
      rw [List.length_cons] at hm
      by_cases hci : c.2.1 = i
      · have he : estep fs i m c = addC m [(keyAt fs c.1, c.2.2)] := if_pos hci
        rw [he]
        have hcond : ((c.2.1 : Int) == (i : Int)) = true := by rw [hci]; simp
        refine ⟨_, .inl (ex_cons (ex_if_true (evB_compare (ev_sub (nm O) ev_int (op_item_tup (by decide) (by rfl))) (nm O) (hcond ▸ op_eq_int)) (ex_cons (ex_assign (ev_call_fn (gl O (g2 G)) (evl_cons (nm O) (evl_cons (ev_dict_one (k := keyAt fs c.1) (d := cD b c.2.2)
          (ev_sub (ev_sub (nm O) (ev_sub (nm O) ev_int (op_item_tup (by decide) (by rfl))) (op_item_lst (by omega) (flAt_get h1))) ev_int (op_item_tup (by decide) (by rfl))) (ev_sub (nm O) ev_int (op_item_tup (by decide) (by rfl)))) evl_nil)) (f2 G).is (c_addcallers G b m [(keyAt fs c.1, c.2.2)] (by rw [List.length_singleton]; omega))) (asg_name O)) ex_nil)) ex_nil), ?_⟩
        exact SubL.all (.cons rfl (.cons rfl (.cons rfl (.cons rfl (.cons rfl .nil)))))
      · have he : estep fs i m c = m := if_neg hci
        rw [he]
        have hcond : ((c.2.1 : Int) == (i : Int)) = false := by rw [beq_eq_false_iff_ne]; omega
        refine ⟨_, .inl (ex_cons (ex_if_false (evB_compare (ev_sub (nm O) ev_int (op_item_tup (by decide) (by rfl))) (nm O) (hcond ▸ op_eq_int)) ex_nil) ex_nil), ?_⟩
        exact SubL.all (.cons rfl (.cons rfl (.cons rfl (.cons rfl (.cons rfl .nil)))))
  · rw [fold_map]
    exact ex_freeze (x := Str.ofString "entries") (d := .lst ((mkRows fs cs).map (rwD b))) rfl (ex_stop (ex_return (nm O)))
end Mine
namespace Mine
open PySem PySem.Calls PySem.W PyProof.Rows
variable {prog : Program} {w : World} {s₀ : Shared} {n : Nat} {ad : Str → Addr} {env : Env} {σ : Sto}

/-! gathered -/
def gstep1 (L : Nat) (acc : Cs) (p : Str × V4) : Cs := addC acc [(abv L p.1, p.2)]
def gcall (L : Nat) (cs : Cs) : Cs := cs.foldl (gstep1 L) []
def oldOf (T : List Row) (h : Str) : V4 × Cs := (aget T h).getD (v0, [])
def gstep (L : Nat) (T : List Row) (r : Row) : List Row := aset T (abv L r.1) (vadd r.2.1 (oldOf T (abv L r.1)).1, addC (oldOf T (abv L r.1)).2 (gcall L r.2.2))
def gather (L : Nat) (rows : List Row) : List Row := rows.foldl (gstep L) []
def RowOk (k : Nat) (r : Row) : Prop := Pk k r.1 ∧ (∀ p ∈ r.2.2, Pk k p.1) ∧ (r.2.2.map (·.1)).Nodup
def rw' (rows : List Row) : Nat := (rows.map fun r => r.2.2.length).sum
theorem gcall_len (L : Nat) (cs : Cs) : (gcall L cs).length ≤ cs.length := by
  have key : ∀ (cs acc : Cs), (cs.foldl (gstep1 L) acc).length ≤ acc.length + cs.length := by
    intro cs
    induction cs with
    | nil => intro acc; exact Nat.le_refl _
    | cons p cs ih =>
      intro acc
      have h1 := ih (gstep1 L acc p)
      have h2 : (gstep1 L acc p).length ≤ acc.length + 1 := addC_len acc [(abv L p.1, p.2)]
      rw [List.foldl_cons, List.length_cons]
      omega
  exact Nat.le_trans (key cs []) (by simp)
theorem aget_of_mem {β : Type} {m : List (Str × β)} (hn : (m.map (·.1)).Nodup) {p : Str × β} (hp : p ∈ m) : aget m p.1 = some p.2 := by
  induction m with
  | nil => cases hp
  | cons q m ih =>
    unfold aget
    rw [List.map_cons, List.nodup_cons] at hn
    by_cases hq : q.1 = p.1
    · rw [List.find?_cons_of_pos (by simpa using hq)]
      rcases List.mem_cons.mp hp with h | h
      · rw [h]; rfl
      · exact (hn.1 (hq ▸ List.mem_map_of_mem h)).elim
    · rw [List.find?_cons_of_neg (by simpa using hq)]
      rcases List.mem_cons.mp hp with h | h
      · exact (hq (by rw [h])).elim
      · exact ih hn.2 h
abbrev tD (b : Bool) (T : List Row) : D := .dct (enc (fun p : V4 × Cs => rD b p.1 p.2) T)
theorem oldOf_len {T : List Row} {B : Nat} (h : ∀ t ∈ T, t.2.2.length ≤ B) (k : Str) : (oldOf T k).2.length ≤ B := by
  unfold oldOf aget
  cases hq : T.find? fun p => p.1 = k with
  | none => exact Nat.zero_le _
  | some r => exact h r (List.mem_of_find?_eq_some hq)
theorem mem_aset {β : Type} {m : List (Str × β)} {k : Str} {v : β} {p : Str × β} (h : p ∈ aset m k v) : p = (k, v) ∨ p ∈ m := by
  unfold aset at h
  split at h
  · obtain ⟨q, hq, rfl⟩ := List.mem_map.mp h
    split
    · rename_i hk; exact .inl (by rw [← hk])
    · exact .inr hq
  · rcases List.mem_append.mp h with h | h
    · exact .inr h
    · exact .inl (List.mem_singleton.mp h)
theorem smp_cD (b : Bool) (v : V4) : Smp 1 (cD b v) := by
  cases b with
  | true => trivial
  | false =>
    intro d hd
    obtain ⟨i, _, rfl⟩ := List.mem_map.mp hd
    trivial
theorem smp_items (b : Bool) (m : Cs) : Smp 3 (.lst ((enc (cD b) m).map fun kd => .tup [.str kd.1, kd.2])) := by
  intro d hd
  rw [items_enc] at hd
  obtain ⟨p, _, rfl⟩ := List.mem_map.mp hd
  intro e he
  simp only [List.mem_cons, List.not_mem_nil, or_false] at he
  rcases he with rfl | rfl
  · trivial
  · exact smp_cD b p.2
theorem c_gathered (G : Gd s₀ ad) (b : Bool) {L : Nat} {rows : List Row} (hr : ∀ r ∈ rows, RowOk (L + 1) r) (hz : rows.length ≤ 100) (hw : rw' rows ≤ 10000) :
    CallT prog w s₀ (n + 4) (.ref (ad r18.name)) [.lst (rows.map (rwD b)), .int L] (tD b (gather L rows)) := by
  refine call_def [(Str.ofString "entries", .val (.lst (rows.map (rwD b)))), (Str.ofString "level", .val (.int L))] (f18 G) (defOk2 (by decide) rfl fun _ _ _ _ _ => by with_unfolding_all rfl) rfl fun L' code O => ?_
  conv => arg 7; arg 1; whnf
  let st : List Row → Sto := fun T => [(Str.ofString "entries", .val (.lst (rows.map (rwD b)))), (Str.ofString "level", .val (.int L)), (Str.ofString "table", .own (tD b T))]
  refine ex_cons (ex_new_dict O) ?_
  refine ex_cons (ex_for_fold st (gstep L) (rwD b) (fun T rest => (∀ t ∈ T, t.2.2.length + rw' rest ≤ 10000) ∧ rw' rest ≤ 10000 ∧ T.length + rest.length ≤ 200 ∧ ∀ r ∈ rest, RowOk (L + 1) r) rows [] (nm O) src_lst rfl rfl ⟨fun _ h => (nomatch h), hw, by simp; omega, hr⟩
    fun T r rest hI => ⟨⟨?_, ?_, ?_, fun r' h' => hI.2.2.2 r' (List.mem_cons_of_mem _ h')⟩, _, asg_tuple (asgl_cons (asg_name O) (asgl_cons (asg_name O) asgl_nil)), ?_⟩) ?_
  · intro t ht
    have hrw : rw' (r :: rest) = r.2.2.length + rw' rest := by simp [rw']
    rcases mem_aset ht with h | h
    · rw [h]
      have h1 := addC_len (oldOf T (abv L r.1)).2 (gcall L r.2.2)
      have h2 := gcall_len L r.2.2
      have h3 := oldOf_len (B := 10000 - rw' (r :: rest)) (fun t ht => by have := hI.1 t ht; omega) (abv L r.1)
      have h4 := hI.2.1
      show (addC (oldOf T (abv L r.1)).2 (gcall L r.2.2)).length + rw' rest ≤ 10000
      omega
    · have := hI.1 t h; omega
  · have hrw : rw' (r :: rest) = r.2.2.length + rw' rest := by simp [rw']
    have := hI.2.1; omega
  · have h1 := @aset_len _ T (abv L r.1) (vadd r.2.1 (oldOf T (abv L r.1)).1, addC (oldOf T (abv L r.1)).2 (gcall L r.2.2))
    have := hI.2.2.1
    rw [List.length_cons] at this
    show (aset T (abv L r.1) _).length + _ ≤ _
    omega
  · obtain ⟨hk, hks, hnd⟩ := hI.2.2.2 r List.mem_cons_self
    have hrw : rw' (r :: rest) = r.2.2.length + rw' rest := by simp [rw']
    have hrl : r.2.2.length ≤ 10000 := by have := hI.2.1; omega
    have hTl : T.length ≤ 200 := by have := hI.2.2.1; omega
    have hol : (oldOf T (abv L r.1)).2.length ≤ 10000 := oldOf_len (fun t ht => by have := hI.1 t ht; omega) _
    have hgl := gcall_len L r.2.2
    let st2 : Str → Cs → Sto := fun h m => [(Str.ofString "entries", .val (.lst (rows.map (rwD b)))), (Str.ofString "level", .val (.int L)), (Str.ofString "table", .own (tD b T)), (Str.ofString "stat", .val (rD b r.2.1 r.2.2)), (Str.ofString "home", .val (.str h)), (Str.ofString "callers", .val (kD b m))]
    refine ⟨st (gstep L T r), .inl (ex_cons (ex_assign_swapped (names := [Str.ofString "callers", Str.ofString "home"]) (ds := [.dct [], .str (abv L r.1)]) (ev_tuple (evl_cons ev_dict_nil (evl_cons (ev_call_fn (gl O (g17 G)) (evl_cons (nm O) (evl_cons (nm O) evl_nil)) (f17 G).is (c_above G hk)) evl_nil)) (by show 2 ≤ sizeLine; decide)) (by rfl) rfl
      (asgl_cons (asg_bind O) (asgl_cons (asg_bind O) asgl_nil))) (ex_weak (SubL.all (τ := st2 (abv L r.1) []) (.cons rfl (.cons rfl (.cons rfl (.cons rfl (.cons rfl (.cons rfl .nil))))))) ?_)), fun _ _ h => h⟩
    refine ex_cons (ex_for_fold (st2 (abv L r.1)) (gstep1 L) (fun p => D.str p.1) (fun m rest2 => m.length + rest2.length ≤ 10000 ∧ ∀ p ∈ rest2, p ∈ r.2.2) r.2.2 [] (ev_sub (nm O) ev_int (op_item_tup (d := kD b r.2.2) (by decide) (by rfl))) src_dct (by unfold enc; rw [List.map_map]; rfl) rfl ⟨by simpa using hrl, fun _ h => h⟩
      fun m p rest2 hI2 => ⟨⟨?_, fun q hq => hI2.2 q (List.mem_cons_of_mem _ hq)⟩, _, asg_name O, ?_⟩) ?_
    · have h1 := hI2.1
      have h2 : (gstep1 L m p).length ≤ m.length + 1 := addC_len m [(abv L p.1, p.2)]
      rw [List.length_cons] at h1
      omega
    · have hp := hI2.2 p List.mem_cons_self
      have h1 := hI2.1
      rw [List.length_cons] at h1
      have hg : dget (enc (cD b) r.2.2) p.1 = some (cD b p.2) := by rw [dget_enc, aget_of_mem hnd hp]; rfl
      refine ⟨_, .inl (ex_cons (ex_assign (ev_call_fn (gl O (g2 G)) (evl_cons (nm O) (evl_cons (ev_dict_one (k := abv L p.1) (d := cD b p.2) (ev_call_fn (gl O (g17 G)) (evl_cons (nm O) (evl_cons (nm O) evl_nil)) (f17 G).is (c_above G (hks p hp)))
        (ev_sub (ev_sub (nm O) ev_int (op_item_tup (d := kD b r.2.2) (by decide) (by rfl))) (nm O) (op_item_dct hg))) evl_nil)) (f2 G).is (c_addcallers G b m [(abv L p.1, p.2)] (by rw [List.length_singleton]; omega))) (asg_name O)) ex_nil), ?_⟩
      exact SubL.all (.cons rfl (.cons rfl (.cons rfl (.cons rfl (.cons rfl (.cons rfl .nil))))))
    · have hgs : gstep L T r = aset T (abv L r.1) (vadd r.2.1 (oldOf T (abv L r.1)).1, addC (oldOf T (abv L r.1)).2 (gcall L r.2.2)) := rfl
      rw [hgs]
      show Ex prog w s₀ _ _ (st2 (abv L r.1) (gcall L r.2.2)) _ _
      generalize gcall L r.2.2 = m at *
      generalize abv L r.1 = h at *
      have hTs : (enc (fun p : V4 × Cs => rD b p.1 p.2) T).length < sizeLine := by rw [enc_len, sizeLine_eq]; omega
      have hd := @dset_enc _ (fun p : V4 × Cs => rD b p.1 p.2) T h (vadd r.2.1 (oldOf T h).1, addC (oldOf T h).2 m)
      refine ex_cons (ex_assign (d := rD b (oldOf T h).1 (oldOf T h).2) ?_ (asg_name O)) ?_
      · cases hg : aget T h with
        | none =>
          have ho : oldOf T h = (v0, []) := by unfold oldOf; rw [hg]; rfl
          rw [ho]
          exact ev_ifexp_false (evB_thaw (x := Str.ofString "table") (d := tD b T) rfl (ThL.all (.cons (y := Str.ofString "home") (d' := .str h) rfl (.self .nil))) (evB_compare (nm O) (nm O) (op_in_dct (by rw [dget_enc, hg]; rfl))))
            (ev_tuple (evl_cons ev_int (evl_cons ev_int (evl_cons ev_int (evl_cons ev_int (evl_cons ev_dict_nil evl_nil))))) (by show 5 ≤ sizeLine; decide))
        | some u =>
          have ho : oldOf T h = u := by unfold oldOf; rw [hg]; rfl
          rw [ho]
          exact ev_ifexp_true (evB_thaw (x := Str.ofString "table") (d := tD b T) rfl (ThL.all (.cons (y := Str.ofString "home") (d' := .str h) rfl (.self .nil))) (evB_compare (nm O) (nm O) (op_in_dct (by rw [dget_enc, hg]; rfl))))
            (ev_own_item O rfl (nm O) (by rw [dget_enc, hg]; rfl))
      · generalize oldOf T h = u at *
        have hcall : CallT prog w s₀ (n + 3) (.ref (ad r1.name)) [rD b u.1 u.2, rD b r.2.1 m] (rD b (vadd r.2.1 u.1) (addC u.2 m)) := c_addstats G b u.1 r.2.1 u.2 m (by omega)
        refine ex_cons (ex_assign (ev_list (evl_cons (ev_call_ty (bty O G) (evl_cons (ev_meth mk_items (ev_sub (nm O) ev_int (op_item_tup (d := kD b u.2) (by decide) (by rfl))) (by rfl) evl_nil ct_items) evl_nil) ct_list_items)
          (evl_cons (ev_call_ty (bty O G) (evl_cons (ev_meth mk_items (nm O) (by rfl) evl_nil ct_items) evl_nil) ct_list_items) evl_nil)) (by show 2 ≤ sizeLine; decide)) (asg_name O)) ?_
        refine ex_cons (ex_dset O rfl (ev_call_fn (gl O (g1 G)) (evl_cons (nm O) (evl_cons (ev_binop (ev_sub (nm O) (ev_slice (lo := none) (hi := some 4) trivial ev_int) (op_slice_tup (b := 4) (by show 4 < 5; decide))) (ev_tuple (evl_cons (nm O) evl_nil) (by show 1 ≤ sizeLine; decide)) (op_add_tup (by show 4 + 1 ≤ sizeLine; decide) (by simp) (by simp))) evl_nil)) (f1 G).is hcall) (nm O) hTs) ?_
        refine ex_cons (ex_if_false (evB_compare (ev_list (evl_cons (ev_call_ty (bty O G) (evl_cons (ev_meth mk_items (ev_sub (nm O) ev_int (op_item_tup (d := kD b u.2) (by decide) (by rfl))) (by rfl) evl_nil ct_items) evl_nil) ct_list_items)
          (evl_cons (ev_call_ty (bty O G) (evl_cons (ev_meth mk_items (nm O) (by rfl) evl_nil ct_items) evl_nil) ct_list_items) evl_nil)) (by show 2 ≤ sizeLine; decide)) (nm O) (op_ne_lst 3 (by decide) fun d hd => ?_)) ex_nil) (ex_weak (SubL.all (.cons rfl (.cons rfl (.cons (by rw [show tD b _ = _ from congrArg D.dct hd.symm]; rfl) .nil)))) ex_nil)
        simp only [List.mem_cons, List.not_mem_nil, or_false] at hd
        rcases hd with rfl | rfl
        · exact smp_items b u.2
        · exact smp_items b m
  · exact ex_freeze (x := Str.ofString "table") (d := tD b (gather L rows)) rfl (ex_stop (ex_return (nm O)))
end Mine
namespace Mine
open PySem PySem.Calls PySem.W PyProof.Rows
variable {prog : Program} {w : World} {s₀ : Shared} {n : Nat} {ad : Str → Addr} {env : Env} {σ : Sto}
end Mine
namespace Mine
open PySem PySem.Calls PySem.W PyProof.Rows
variable {prog : Program} {w : World} {s₀ : Shared} {n : Nat} {ad : Str → Addr} {env : Env} {σ : Sto}

theorem op_notin_dct {kds : List (Str × D)} {x : Str} {b : Bool} (hb : b = !(dget kds x).isSome) : Op2 prog w s₀ n (compareOp .NotIn) (.str x) (.dct kds) (.bool b) := by
  intro A Z R s u v ok W i j
  obtain ⟨t, rfl⟩ := i.str_inv
  ·
    obtain ⟨_, _, _, rfl, e, hm, hz, he, hn⟩ := j.dct_inv
    ·
      obtain ⟨kvs, p, hk, ks, h1, h2, _, _⟩ := he.split
      have hd := dict_of (Z := Z) (W.frz _ _ e) p ks hk hn
      refine wpAny_notIn_of (strKind_is prog w x t) hm hd.mapOf (Post.here (W.tok _) ?_)
      have : (!(valueAt kvs x).isSome) = b := by
        subst hb
        cases q : dget kds x with
        | none => rw [h2 x q]; rfl
        | some d => obtain ⟨v, hv, _⟩ := h1 x d q; rw [hv]; rfl
      rw [this]; exact .bool _

/-- a cell of nobody's becomes the frame's own -/
theorem own_at {Z R Y : Fz} {s : Shared} {a : Addr} {o : Obj} (W : Wd s₀ Z (forr Y R) s) (P : Pv (hsOf prog w) env Z R Y σ) (hg : s.heap.get? a = some o) (hz : Z a = none) (hyr : forr Y R a = none) :
    Wd s₀ Z (forr (fset Y a o) R) s ∧ Pv (hsOf prog w) env Z R (fset Y a o) σ ∧ Y a = none ∧ a ≠ env.locals := by
  have hy : Y a = none := by
    cases q : Y a with
    | none => rfl
    | some ob => rw [fle_forr _ _ q] at hyr; exact nomatch hyr
  have hr : R a = none := by
    cases q : R a with
    | none => rfl
    | some ob => unfold forr at hyr; rw [hy, q] at hyr; exact nomatch hyr
  have hL : a ≠ env.locals := by
    obtain ⟨oL, m, h1, h2⟩ := P.fr
    intro e; rw [e, h1] at hy; exact nomatch hy
  have hle : FLe Y (fset Y a o) := fle_fset hy
  refine ⟨⟨W.base, W.cur, fun b ob e => ?_, fun b ob e => ?_, W.os, W.bare⟩, ⟨fun b ob e => ?_, ?_, fun x hx => ?_, P.cinj, fun x lv e => ?_, fun x y d d' b e1 e2 t1 t2 => ?_, P.nofree⟩, hy, hL⟩
  · by_cases hb : b = a
    · subst hb
      have : forr (fset Y b o) R b = some o := fle_forr _ _ fset_self
      rw [this] at e; cases e
      exact hg
    · have : forr (fset Y a o) R b = forr Y R b := by unfold forr; rw [fset_ne hb]
      rw [this] at e
      exact W.rest b ob e
  · by_cases hb : b = a
    · subst hb; exact hz
    · have : forr (fset Y a o) R b = forr Y R b := by unfold forr; rw [fset_ne hb]
      rw [this] at e
      exact W.off b ob e
  · by_cases hb : b = a
    · subst hb; exact hr
    · rw [fset_ne hb] at e; exact P.disj b ob e
  · obtain ⟨oL, m, h1, h2⟩ := P.fr
    exact ⟨oL, m, hle _ _ h1, h2⟩
  · obtain ⟨c, ob, v, h1, h2, h3, h4⟩ := P.cel x hx
    exact ⟨c, ob, v, h1, hle _ _ h2, h3, h4⟩
  · obtain ⟨v, a1, a2⟩ := P.rd x lv e
    refine ⟨v, a1.mono hle, ?_⟩
    cases lv with
    | val d => exact a2
    | own d => obtain ⟨a', o', g1, g2, g3, g4⟩ := a2; exact ⟨a', o', g1, hle _ _ g2, g3, g4⟩
  · obtain ⟨u, p1, _⟩ := P.rd x _ e1
    obtain ⟨u', p2, _⟩ := P.rd y _ e2
    have q1 := (p1.mono hle).fun t1
    have q2 := (p2.mono hle).fun t2
    subst q1; subst q2
    exact P.inj x y d d' b e1 e2 p1 p2
/-- x1, x2 = (e1, {}), stored in order: the dict is the block's own -/
theorem ex_pair_own {x1 x2 : Str} {p1 p2 tpos lp vpos pos : Pos} {k k2 : Nat} {e1 : Expr} {d1 : D} (O : EnvOk env) (h1 : Ev prog w s₀ n env σ (eval e1 env) d1)
    (hw : swappedStores [.Tuple [.Name x1 p1, .Name x2 p2] k tpos] (.Tuple [e1, .Dict [] [] lp] k2 vpos) env = pure none := by rfl)
    (hs : swapsWithSole [.Tuple [.Name x1 p1, .Name x2 p2] k tpos] (.Tuple [e1, .Dict [] [] lp] k2 vpos) pos.line env = pure false := by rfl)
    (hk1 : env.kindOf x1 = some .local ∨ env.kindOf x1 = some .cell := by first | exact Or.inl rfl | exact Or.inr rfl) (hk2 : env.kindOf x2 = some .local ∨ env.kindOf x2 = some .cell := by first | exact Or.inl rfl | exact Or.inr rfl)
    (hea : (assignEach [.Tuple [.Name x1 p1, .Name x2 p2] k tpos] env).map (·.2) = [assign (.Tuple [.Name x1 p1, .Name x2 p2] k tpos) env] := by rfl)
    (heb : (assignEach [.Name x1 p1, .Name x2 p2] env).map (·.2) = [assign (.Name x1 p1) env, assign (.Name x2 p2) env] := by rfl)
    (hec : (assignEach [.Name x1 p1, .Name x2 p2] env).length = 2 := by rfl) (hed : (assignEach [.Name x1 p1, .Name x2 p2] env).findIdx? (·.1) = none := by rfl)
    (he : backTo vpos (starEach [e1, .Dict [] [] lp] env) = (false, eval e1 env) :: backTo vpos (starEach [.Dict [] [] lp] env) := by rfl)
    (he2 : backTo vpos (starEach [.Dict [] [] lp] env) = (false, eval (.Dict [] [] lp) env) :: backTo vpos (starEach [] env) := by rfl) :
    Ex prog w s₀ n env σ (exec (.Assign [.Tuple [.Name x1 p1, .Name x2 p2] k tpos] (.Tuple [e1, .Dict [] [] lp] k2 vpos) pos) env) (.next (sset (sset σ x1 (.val d1)) x2 (.own (.dct [])))) := by
  intro A Z R Y s ok W P
  rw [exec_Assign]
  refine wpAny_bind (wpAny_standAt ?_)
  rw [hs]
  refine wpAny_bind (wpAny_pure ?_)
  rw [if_neg (by decide)]
  refine wpAny_bind (Tuple_ ?_)
  rw [he]
  refine spliced_cons (wpAny_mono (h1 A Z _ s ok W P.read) ?_ fun _ _ x => x)
  rintro v1 s1 ⟨Z1, l1, W1, i1⟩
  rw [he2]
  refine spliced_cons ?_
  show wpAny _ A (do standAt lp; dictDisplay []) _ _ s1
  refine wpAny_bind (wpAny_standAt ?_)
  show wpAny _ A newDict _ _ s1
  refine wpAny_newObj_type ?_ (by show (#[] : Array DictEntry).size ≤ sizeLine + 1; decide)
  refine spliced_nil ?_
  refine wpAny_newObj_type ?_ (by show 2 ≤ sizeLine; decide)
  rw [hw, hea]
  refine wpAny_bind (wpAny_pure ?_)
  have P1 := P.monoZ l1
  have hfree := W1.none_of_ge (a := s1.heap.objs.size) (Nat.le_refl _)
  have hlow := W1.low (a := s1.heap.objs.size) (Nat.le_refl _)
  have hp0 : ∀ b o, s1.heap.get? b = some o → ((s1.heap.push (dctO [] 0)).push (tupO [v1, .ref s1.heap.objs.size] 0)).get? b = some o := fun b o e => Heap.get?_push_of_some _ (Heap.get?_push_of_some _ e)
  have hgd : ((s1.heap.push (dctO [] 0)).push (tupO [v1, .ref s1.heap.objs.size] 0)).get? s1.heap.objs.size = some (dctO [] 0) := Heap.get?_push_of_some _ (Heap.get?_push_size _ rfl)
  have hgt : ((s1.heap.push (dctO [] 0)).push (tupO [v1, .ref s1.heap.objs.size] 0)).get? (s1.heap.push (dctO [] 0)).objs.size = some (tupO [v1, .ref s1.heap.objs.size] 0) := Heap.get?_push_size _ rfl
  show wpAny (model prog w) A (do assignAll (.ref (s1.heap.push (dctO [] 0)).objs.size) [assign (.Tuple [.Name x1 p1, .Name x2 p2] k tpos) env]; pure Flow.next) _ _ { s1 with heap := (s1.heap.push (dctO [] 0)).push (tupO [v1, .ref s1.heap.objs.size] 0) }
  generalize (s1.heap.push (dctO [] 0)).push (tupO [v1, .ref s1.heap.objs.size] 0) = hh at *
  generalize (s1.heap.push (dctO [] 0)).objs.size = tt at *
  have W2 := W1.grow (tk := s1.toks) (h' := hh) hp0
  generalize s1.heap.objs.size = dd at *
  have hT : hh.IsTuple tt [v1, .ref dd].toArray := ⟨_, hgt, rfl, _, rfl⟩
  refine wpAny_bind ?_
  show wpAny _ A (assign (.Tuple [.Name x1 p1, .Name x2 p2] k tpos) env (.ref tt)) _ _ _
  refine wpAny_assign_Tuple (s := { s1 with heap := hh }) ok.handled hT hec hed fun h' hx => ?_
  rw [heb]
  have hgd' : h'.get? dd = some (dctO [] 0) := hx dd _ (Nat.ne_of_lt (Heap.lt_size hgd)) hgd
  have W3 := extBut_wd (tk := s1.toks) W2 hx
  have hI : FIn (one dd (dctO [] 0)) h' := one_in hgd'
  have ho : IOff (one dd (dctO [] 0)) Z1 (forr Y R) := one_off hfree.1 hfree.2
  have W4 := W3.withI (I := one dd (dctO [] 0)) hI ho P1.disj
  have P4 := P1.withI ho
  show wpAny _ A (do holding _ (assign (.Name x1 p1) env v1); assignInOrder [assign (.Name x2 p2) env] [.ref dd]) _ _ _
  refine wpAny_bind (wpAny_holding (wpAny_mono (asg_name (n := n) O hk1 A Z1 _ Y _ v1 ok W4 P4 i1) ?_ fun _ _ x => x))
  rintro _ s5 ⟨Z5, Y5, l5, W5, P5⟩
  have hIR : ∀ a o, one dd (dctO [] 0) a = some o → R a = none := fun a o e => (off_forr ho P1.disj a o e).2
  obtain ⟨W6, hI6, ho6⟩ := W5.dropI P5.disj hIR
  have P6 := P5.dropI
  have hone : one dd (dctO [] 0) dd = some (dctO [] 0) := by simp [one]
  obtain ⟨W7, P7, hy7, hL7⟩ := own_at W6 P6 (hI6 dd _ hone) (ho6 dd _ hone).1 (ho6 dd _ hone).2
  show wpAny _ A (do holding [] (assign (.Name x2 p2) env (.ref dd)); assignInOrder [] []) _ _ _
  have hown : OwnO (hsOf prog w) Z5 dd (dctO [] 0) (.dct []) := .dct hlow (by decide) .nil .nil
  refine wpAny_bind (wpAny_holding (wpAny_mono (wpAny_assign_Name (wp_store O W7 P7 hk2 (lv := .own (.dct [])) ⟨_, _, rfl, fset_self, hown, hL7⟩ ?_)) ?_ fun _ _ x => x))
  · rintro d' a _ e y d'' hyx hl t
    cases e
    obtain ⟨u, q1, a', o', g1, g2, _⟩ := P6.rd y _ hl
    have := (q1.mono (fle_fset hy7)).fun t
    subst this
    cases g1
    rw [hy7] at g2; cases g2
  · intro _ s8 p
    exact wpAny_pure (wpAny_pure (StPost.ex (p.mono (l1.trans l5))))

/-! the ledger -/
def hmf (L : Nat) (f : Fl) : Str := S (pl (f.1.take L))
def hm (fs : List Fl) (L i : Nat) : Str := hmf L (flAt fs i)
def lhere (fs : List Fl) (cs : List Cl) (L : Nat) (h : Str) : List Cl := cs.filter fun c => decide (hm fs L c.2.1 = h)
def lat (fs : List Fl) (L : Nat) (here : List Cl) (k : Str) : List V4 := (here.filter fun o => decide (hm fs L o.1 = k)).map (·.2.2)
def lcstep (fs : List Fl) (L : Nat) (here : List Cl) (m : Cs) (c : Cl) : Cs := aset m (hm fs L c.1) (vsum (lat fs L here (hm fs L c.1)))
def lcs (fs : List Fl) (L : Nat) (here : List Cl) : Cs := here.foldl (lcstep fs L here) []
def lfig (fs : List Fl) (L : Nat) (h : Str) : List V4 := ((List.range fs.length).filter fun i => decide (hm fs L i = h)).map fun i => (flAt fs i).2
def lstep (fs : List Fl) (cs : List Cl) (L : Nat) (T : List Row) (h : Str) : List Row := if (aget T h).isSome then T else aset T h (vsum (lfig fs L h), lcs fs L (lhere fs cs L h))
def ledger (fs : List Fl) (cs : List Cl) (L : Nat) : List Row := (fs.map (hmf L)).foldl (lstep fs cs L) []
abbrev hmD (fs : List Fl) (L : Nat) : D := .lst ((fs.map (hmf L)).map .str)
theorem hm_get {fs : List Fl} {L i : Nat} (h : i < fs.length) : ((fs.map (hmf L)).map D.str)[((i : Nat) : Int).toNat]? = some (.str (hm fs L i)) := by simp [hm, flAt, h]
theorem lstep_len (fs : List Fl) (cs : List Cl) (L : Nat) (T : List Row) (h : Str) : (lstep fs cs L T h).length ≤ T.length + 1 := by
  unfold lstep
  split
  · omega
  · exact aset_len
set_option maxHeartbeats 8000000 in
theorem c_ledger (G : Gd s₀ ad) (b : Bool) {fs : List Fl} {cs : List Cl} {L : Nat} (hf : ∀ f ∈ fs, FlOk f) (hzf : fs.length ≤ 100) (hc : ∀ c ∈ cs, ClOk fs.length c) (hz : cs.length ≤ 100) :
    CallT prog w s₀ (n + 2) (.ref (ad r20.name)) [.lst (fs.map fD), .lst (cs.map (clD b)), .int L] (tD b (ledger fs cs L)) := by
  refine call_def [(Str.ofString "files", .val (.lst (fs.map fD))), (Str.ofString "calls", .val (.lst (cs.map (clD b)))), (Str.ofString "level", .val (.int L))] (f20 G) (defOk3 (by decide) rfl fun _ _ _ _ _ _ => by with_unfolding_all rfl) rfl fun L' code O => ?_
  conv => arg 7; arg 1; whnf
  have hlen : (fs.map fD).length = fs.length := List.length_map ..
  refine ex_cons (ex_pair_own (d1 := hmD fs L) O (ev_listcomp (rs := (fs.map (hmf L)).map .str) [(Str.ofString "level", .val (.int L))] O (nm O) src_lst (.cons rfl .nil) (fun cl C => ?_) (by rw [List.length_map, List.length_map, sizeLine_eq]; omega))) ?_
  · rw [List.map_map]
    refine compT_map fD _ fs fun f hfm => ?_
    obtain ⟨a1, a2, a3⟩ := hf f hfm
    have hw := wt_take f.1 L
    have hj := jn_le (f.1.take L)
    exact ev_binop ev_str (ev_meth mk_join ev_str (by rfl) (evl_cons (ev_sub (ev_sub (nm (ocomp O)) ev_int (op_item_tup (d := nD f.1) (by decide) (by rfl))) (ev_slice (lo := none) (hi := some (L : Int)) trivial (nm (ocomp O))) op_take) evl_nil) (ct_join_S (by omega))) (op_app (a := [47]) (by simp only [List.length_cons, List.length_nil]; omega))
  let st : List Row → Sto := fun T => [(Str.ofString "files", .val (.lst (fs.map fD))), (Str.ofString "calls", .val (.lst (cs.map (clD b)))), (Str.ofString "homes", .val (hmD fs L)), (Str.ofString "due", .own (tD b T))]
  refine ex_weak (SubL.all (τ := st []) (.cons rfl (.cons rfl (.cons rfl (.cons rfl .nil))))) ?_
  refine ex_cons (ex_for_fold st (lstep fs cs L) D.str (fun T rest => T.length + rest.length ≤ 200 ∧ ∀ h ∈ rest, h ∈ fs.map (hmf L)) (fs.map (hmf L)) [] (nm O) src_lst rfl rfl ⟨by simp; omega, fun _ h => h⟩ fun T h rest hI =>
    ⟨⟨?_, fun j hj => hI.2 j (List.mem_cons_of_mem _ hj)⟩, _, asg_name O, ?_⟩) ?_
  · have h1 := hI.1
    have h2 := lstep_len fs cs L T h
    rw [List.length_cons] at h1
    omega
  · have h1 := hI.1
    rw [List.length_cons] at h1
    have hT : (enc (fun p : V4 × Cs => rD b p.1 p.2) T).length < sizeLine := by rw [enc_len, sizeLine_eq]; omega
    obtain ⟨f0, hf0, hfh⟩ := List.mem_map.mp (hI.2 h List.mem_cons_self)
    obtain ⟨i0, hi0, hfi⟩ := List.getElem_of_mem hf0
    have hh0 : hm fs L i0 = h := by rw [← hfh, ← hfi]; simp [hm, flAt, hi0]
    refine ⟨st (lstep fs cs L T h), .inl ?_, fun _ _ h => h⟩
    cases hg : aget T h with
    | some u =>
      have hl : lstep fs cs L T h = T := by unfold lstep; rw [hg]; rfl
      rw [hl]
      refine ex_cons (ex_if_false (evB_thaw (x := Str.ofString "due") (d := tD b T) rfl (ThL.all (.cons (y := Str.ofString "home") (d' := .str h) rfl (.self .nil))) (evB_compare (nm O) (nm O) (op_notin_dct (by rw [dget_enc, hg]; rfl)))) ex_nil) (ex_weak (SubL.all (.cons rfl (.cons rfl (.cons rfl (.cons rfl .nil))))) ex_nil)
    | none =>
      have hl : lstep fs cs L T h = aset T h (vsum (lfig fs L h), lcs fs L (lhere fs cs L h)) := by unfold lstep; rw [hg]; rfl
      rw [hl]
      have hin : ∀ c ∈ lhere fs cs L h, c ∈ cs := fun c hc => (List.mem_filter.mp hc).1
      refine ex_cons (ex_if_true (evB_thaw (x := Str.ofString "due") (d := tD b T) rfl (ThL.all (.cons (y := Str.ofString "home") (d' := .str h) rfl (.self .nil))) (evB_compare (nm O) (nm O) (op_notin_dct (by rw [dget_enc, hg]; rfl)))) ?_) ex_nil
      refine ex_cons (ex_assign_comp (rs := (lhere fs cs L h).map (clD b)) [(Str.ofString "homes", .val (hmD fs L)), (Str.ofString "home", .val (.str h))] O (nm O) src_lst (.cons rfl (.cons rfl .nil)) (fun cl C => ?_)
        (by rw [List.length_map, sizeLine_eq]; have : (lhere fs cs L h).length ≤ cs.length := List.length_filter_le _ _; omega)) ?_
      · refine compT_of (clD b) _ (clD b) cs (fun c hcm => tests_one (evB_compare (ev_sub (nm (ocomp O)) (ev_sub (nm (ocomp O)) ev_int (op_item_tup (d := .int (c.2.1 : Int)) (by decide) (by rfl))) (op_item_lst (by omega) (hm_get (hc c hcm).2))) (nm (ocomp O)) op_eq_str)) fun c hcm _ => nm (ocomp O)
      have hhl : (lhere fs cs L h).length ≤ cs.length := List.length_filter_le _ _
      have hlc : ∀ c ∈ lhere fs cs L h, ClOk fs.length c := fun c hcm => hc c (hin c hcm)
      have hd := @dset_enc _ (fun p : V4 × Cs => rD b p.1 p.2) T h (vsum (lfig fs L h), lcs fs L (lhere fs cs L h))
      show Ex prog w s₀ _ _ _ _ (.next (st (aset T h (vsum (lfig fs L h), (lhere fs cs L h).foldl (lcstep fs L (lhere fs cs L h)) []))))
      have hd : dset (enc (fun p : V4 × Cs => rD b p.1 p.2) T) h (rD b (vsum (lfig fs L h)) ((lhere fs cs L h).foldl (lcstep fs L (lhere fs cs L h)) [])) = enc (fun p : V4 × Cs => rD b p.1 p.2) (aset T h (vsum (lfig fs L h), (lhere fs cs L h).foldl (lcstep fs L (lhere fs cs L h)) [])) := hd
      generalize lhere fs cs L h = here at *
      let st2 : Cs → Sto := fun m => [(Str.ofString "files", .val (.lst (fs.map fD))), (Str.ofString "calls", .val (.lst (cs.map (clD b)))), (Str.ofString "homes", .val (hmD fs L)), (Str.ofString "due", .own (tD b T)), (Str.ofString "home", .val (.str h)), (Str.ofString "here", .val (.lst (here.map (clD b)))), (Str.ofString "callers", .own (kD b m))]
      refine ex_cons (ex_new_dict O) ?_
      refine ex_cons (ex_for_fold st2 (lcstep fs L here) (clD b) (fun m rest2 => m.length + rest2.length ≤ 200 ∧ ∀ c ∈ rest2, c ∈ here) here [] (nm O) src_lst rfl rfl ⟨by simp; omega, fun _ h => h⟩
        fun m c rest2 hI2 => ⟨⟨?_, fun j hj => hI2.2 j (List.mem_cons_of_mem _ hj)⟩, _, asg_name O, ?_⟩) ?_
      · have h2 := hI2.1
        have h3 := @aset_len _ m (hm fs L c.1) (vsum (lat fs L here (hm fs L c.1)))
        rw [List.length_cons] at h2
        show (aset m _ _).length + _ ≤ _
        omega
      · have hch := hI2.2 c List.mem_cons_self
        obtain ⟨k1, k2⟩ := hlc c hch
        have h2 := hI2.1
        rw [List.length_cons] at h2
        have hm2 : (enc (cD b) m).length < sizeLine := by rw [enc_len, sizeLine_eq]; omega
        have hlz : (lat fs L here (hm fs L c.1)).length ≤ 1000 := by
          unfold lat
          rw [List.length_map]
          have : (here.filter fun o => decide (hm fs L o.1 = hm fs L c.1)).length ≤ here.length := List.length_filter_le _ _
          omega
        have hne : lat fs L here (hm fs L c.1) ≠ [] := by
          unfold lat
          intro h0
          have h0 := List.map_eq_nil_iff.mp h0
          have : c ∈ here.filter fun o => decide (hm fs L o.1 = hm fs L c.1) := List.mem_filter.mpr ⟨hch, by simp⟩
          rw [h0] at this; cases this
        have htot : tot b (lat fs L here (hm fs L c.1)) = cD b (vsum (lat fs L here (hm fs L c.1))) := if_neg hne
        have hcall := c_total (prog := prog) (w := w) (n := n) G b hlz
        rw [htot] at hcall
        refine ⟨_, .inl (ex_cons (ex_dset (k := hm fs L c.1) (d := cD b (vsum (lat fs L here (hm fs L c.1)))) O rfl (ev_call_fn (gl O (g19 G)) (evl_cons (ev_listcomp (rs := (lat fs L here (hm fs L c.1)).map (cD b)) [(Str.ofString "homes", .val (hmD fs L)), (Str.ofString "call", .val (clD b c))] O (nm O) src_lst (.cons rfl (.cons rfl .nil)) (fun cl C => ?_)
          (by rw [List.length_map, sizeLine_eq]; omega)) evl_nil) (f19 G).is hcall) (ev_sub (nm O) (ev_sub (nm O) ev_int (op_item_tup (d := .int (c.1 : Int)) (by decide) (by rfl))) (op_item_lst (by omega) (hm_get k1))) hm2) ex_nil), ?_⟩
        · refine compT_of' (clD b) (fun o => decide (hm fs L o.1 = hm fs L c.1)) (fun o => cD b o.2.2) here rfl (by unfold lat; rw [List.map_map]; rfl) (fun o ho => tests_one (evB_compare (ev_sub (nm (ocomp O)) (ev_sub (nm (ocomp O)) ev_int (op_item_tup (d := .int (o.1 : Int)) (by decide) (by rfl))) (op_item_lst (by omega) (hm_get (hlc o ho).1)))
            (ev_sub (nm (ocomp O)) (ev_sub (nm (ocomp O)) ev_int (op_item_tup (d := .int (c.1 : Int)) (by decide) (by rfl))) (op_item_lst (by omega) (hm_get k1))) op_eq_str)) fun o ho _ => ev_sub (nm (ocomp O)) ev_int (op_item_tup (by decide) (by rfl))
        · rw [dset_enc]
          exact SubL.all (.cons rfl (.cons rfl (.cons rfl (.cons rfl (.cons rfl (.cons rfl (.cons rfl .nil)))))))
      · refine ex_freeze (x := Str.ofString "callers") (d := kD b (here.foldl (lcstep fs L here) [])) rfl ?_
        generalize here.foldl (lcstep fs L here) [] = m at *
        have hlz : (lfig fs L h).length ≤ 1000 := by
          unfold lfig
          rw [List.length_map]
          have : ((List.range fs.length).filter fun i => decide (hm fs L i = h)).length ≤ (List.range fs.length).length := List.length_filter_le _ _
          rw [List.length_range] at this
          omega
        have hne : lfig fs L h ≠ [] := by
          unfold lfig
          intro h0
          have h0 := List.map_eq_nil_iff.mp h0
          have : i0 ∈ (List.range fs.length).filter fun i => decide (hm fs L i = h) := List.mem_filter.mpr ⟨List.mem_range.mpr hi0, by simp [hh0]⟩
          rw [h0] at this; cases this
        have htot : tot false (lfig fs L h) = .tup ([(vsum (lfig fs L h)).a, (vsum (lfig fs L h)).b, (vsum (lfig fs L h)).c, (vsum (lfig fs L h)).d].map .int) := if_neg hne
        have hcall := c_total (prog := prog) (w := w) (n := n) G false hlz
        rw [htot] at hcall
        refine ex_cons (ex_dset (k := h) (d := rD b (vsum (lfig fs L h)) m) O rfl (ev_binop (ev_call_fn (gl O (g19 G)) (evl_cons (ev_listcomp (rs := (lfig fs L h).map (cD false)) [(Str.ofString "files", .val (.lst (fs.map fD))), (Str.ofString "homes", .val (hmD fs L)), (Str.ofString "home", .val (.str h))] O
          (ev_call_ty (bty O G) (evl_cons (ev_call_bi (bbi O G) (evl_cons (nm O) evl_nil) (hlen ▸ ct_len_lst)) evl_nil) (ct_range (k := fs.length))) (src_rng (by omega)) (.cons rfl (.cons rfl (.cons rfl .nil))) (fun cl C => ?_) (by rw [List.length_map, sizeLine_eq]; omega)) evl_nil) (f19 G).is hcall)
          (ev_tuple (evl_cons (nm O) evl_nil) (by show 1 ≤ sizeLine; decide)) (op_add_tup (b := [kD b m]) (by show 4 + 1 ≤ sizeLine; decide) (by simp) (by simp))) (nm O) hT) (ex_weak (SubL.all (.cons rfl (.cons rfl (.cons rfl (.cons (by rw [show tD b _ = _ from congrArg D.dct hd.symm]; rfl) .nil))))) ex_nil)
        refine compT_of' (fun (i : Nat) => D.int (i : Int)) (fun i => decide (hm fs L i = h)) (fun i => cD false (flAt fs i).2) (List.range fs.length) rfl (by unfold lfig; rw [List.map_map]; rfl) (fun i hi => tests_one (evB_compare (ev_sub (nm (ocomp O)) (nm (ocomp O)) (op_item_lst (by omega) (hm_get (List.mem_range.mp hi)))) (nm (ocomp O)) op_eq_str))
          fun i hi _ => ev_sub (ev_sub (nm (ocomp O)) (nm (ocomp O)) (op_item_lst (by omega) (flAt_get (List.mem_range.mp hi)))) ev_int (op_item_tup (by decide) (by rfl))
  · exact ex_freeze (x := Str.ofString "due") (d := tD b (ledger fs cs L)) rfl (ex_stop (ex_return (nm O)))
end Mine
namespace Mine
open PySem PySem.Calls PySem.W PyProof.Rows
variable {prog : Program} {w : World} {s₀ : Shared} {n : Nat} {ad : Str → Addr} {env : Env} {σ : Sto}

/-! a while loop that ends within k turns -/
def wfold {S : Type} (step : S → S) (cond : S → Bool) : Nat → S → S
  | 0, s => s
  | k + 1, s => if cond s then wfold step cond k (step s) else s
theorem wfold_inv {S : Type} {step : S → S} {cond : S → Bool} {Inv : Nat → S → Prop} (hb : ∀ k s, Inv (k + 1) s → cond s = true → Inv k (step s)) : ∀ k s, Inv k s → ∃ k', Inv k' (wfold step cond k s)
  | 0, s, h => ⟨0, h⟩
  | k + 1, s, h => by
    unfold wfold
    cases hc : cond s with
    | true => exact wfold_inv hb k _ (hb k s h hc)
    | false => exact ⟨_, h⟩
theorem exw_iter {S : Type} {test : Expr} {body : List Stmt} (st : S → Sto) (step : S → S) (cond : S → Bool) (Inv : Nat → S → Prop) (ht : ∀ s, EvB prog w s₀ n env (st s) (isTrue test env (eval test env)) (cond s))
    (h0 : ∀ s, Inv 0 s → cond s = false)
    (hb : ∀ k s, Inv (k + 1) s → cond s = true → Inv k (step s) ∧ ∃ σ2, (Ex prog w s₀ n env (st s) (execs body env) (.next σ2) ∨ Ex prog w s₀ n env (st s) (execs body env) (.cont σ2)) ∧ ∀ y lv, (st (step s)).lookup y = some lv → σ2.lookup y = some lv) :
    ∀ k s, Inv k s → ExC prog w s₀ n env (st s) (.whileLoop test body [] env) (.next (st (wfold step cond k s)))
  | 0, s, h => exw_done (h0 s h ▸ ht s)
  | k + 1, s, h => by
    unfold wfold
    cases hc : cond s with
    | true =>
      obtain ⟨h1, σ2, h2, h3⟩ := hb k s h hc
      exact exw_step (hc ▸ ht s) h2 (exc_weak h3 (exw_iter st step cond Inv ht h0 hb k _ h1))
    | false => exact exw_done (hc ▸ ht s)

/-! the drawn places, in plain words -/
def stepsL (q : Nat) : List (List (List Nat)) := [[[98], [], []], [[97]], [[98]], [[97, 45]], [[46, 46]], [[46]], [[46, 46], [46, 46]], [[97, q]]]
structure StepOk (s : List (List Nat)) : Prop where
  ne : s ≠ []
  free : ∀ p ∈ s, Free p
  head : (jn s).head? ≠ some 47
  wt : wt s ≤ 6
  add : ∀ ns, (s.foldl nstep ns).length ≤ ns.length + 1
theorem nstep_len (ns : List (List Nat)) (p : List Nat) : (nstep ns p).length ≤ ns.length + 1 := by
  unfold nstep
  split
  · omega
  · split
    · rw [List.length_dropLast]; omega
    · simp
theorem stepsL_ok {q : Nat} (hq : 48 ≤ q) : ∀ s ∈ stepsL q, StepOk s := by
  have hq' : q ≠ 47 := by omega
  intro s hs
  simp only [stepsL, List.mem_cons, List.not_mem_nil, or_false] at hs
  rcases hs with rfl | rfl | rfl | rfl | rfl | rfl | rfl | rfl
  · exact ⟨by decide, by decide, by decide, by decide, fun ns => by show (nstep (nstep (nstep ns [98]) []) []).length ≤ _; exact nstep_len ns [98]⟩
  · exact ⟨by decide, by decide, by decide, by decide, fun ns => nstep_len ns [97]⟩
  · exact ⟨by decide, by decide, by decide, by decide, fun ns => nstep_len ns [98]⟩
  · exact ⟨by decide, by decide, by decide, by decide, fun ns => nstep_len ns [97, 45]⟩
  · exact ⟨by decide, by decide, by decide, by decide, fun ns => nstep_len ns [46, 46]⟩
  · exact ⟨by decide, by decide, by decide, by decide, fun ns => nstep_len ns [46]⟩
  · exact ⟨by decide, by decide, by decide, by decide, fun ns => by show (ns.dropLast.dropLast).length ≤ _; rw [List.length_dropLast, List.length_dropLast]; omega⟩
  · refine ⟨by simp, fun p hp => ?_, by simp [jn], by simp [wt], fun ns => nstep_len ns [97, q]⟩
    rw [List.mem_singleton] at hp
    subst hp
    show 47 ∉ [97, q]
    intro h
    rcases List.mem_cons.mp h with h | h
    · exact absurd h (by decide)
    · exact hq' (List.mem_singleton.mp h).symm
theorem jn_snoc (a : List (List Nat)) (l : List Nat) : jn (a ++ [l]) = if a = [] then l else jn a ++ 47 :: l := by
  split
  · rename_i h; subst h; rfl
  · rename_i h; exact jn_app h (by simp)
theorem nf_app (a b : List (List Nat)) : nf (a ++ b) = b.foldl nstep (nf a) := by unfold nf; rw [List.foldl_append]
theorem nstep_vn {ns : List (List Nat)} {p : List Nat} (h : ∀ q ∈ ns, Vn q) (hp : Free p) : ∀ q ∈ nstep ns p, Vn q := by
  unfold nstep
  split
  · exact h
  · rename_i h1
    split
    · exact fun q hq => h q (List.dropLast_subset _ hq)
    · intro q hq
      rcases List.mem_append.mp hq with hq | hq
      · exact h q hq
      · rw [List.mem_singleton] at hq
        subst hq
        exact ⟨fun e => h1 (.inl e), fun e => h1 (.inr e), hp⟩
theorem fold_vn : ∀ {s ns : List (List Nat)}, (∀ q ∈ ns, Vn q) → (∀ p ∈ s, Free p) → ∀ q ∈ s.foldl nstep ns, Vn q
  | [], _, h, _ => h
  | p :: s, _, h, hf => fold_vn (s := s) (nstep_vn h (hf p List.mem_cons_self)) fun q hq => hf q (List.mem_cons_of_mem _ hq)
structure DInv (k : Nat) (sp : List Nat) (ns : List (List Nat)) : Prop where
  ex : ∃ ps, ps ≠ [] ∧ (∀ p ∈ ps, Free p) ∧ sp = 47 :: jn ps ∧ ns = nf ps ∧ (jn ps).head? ≠ some 47 ∧ wt ps ≤ 6 * k + 1
  vn : ∀ p ∈ ns, Vn p
  len : ns.length ≤ k
theorem dinv_step {k : Nat} {sp : List Nat} {ns s : List (List Nat)} (h : DInv k sp ns) (hs : StepOk s) : DInv (k + 1) (jn2 sp (jn s)) (s.foldl nstep ns) := by
  obtain ⟨⟨ps, h1, h2, rfl, rfl, h5, h6⟩, hv, hl⟩ := h
  refine ⟨?_, fold_vn hv hs.free, Nat.le_trans (hs.add _) (by omega)⟩
  rcases List.eq_nil_or_concat ps with h0 | ⟨a, l, h0⟩
  · exact (h1 h0).elim
  · rw [List.concat_eq_append] at h0
    subst h0
    have hsw := hs.wt
    rw [wt_app] at h6
    by_cases hl0 : l = []
    · subst hl0
      by_cases ha : a = []
      · subst ha
        refine ⟨s, hs.ne, hs.free, ?_, rfl, hs.head, by omega⟩
        rfl
      · refine ⟨a ++ s, by simp [ha], ?_, ?_, ?_, ?_, by rw [wt_app]; omega⟩
        · intro p hp
          rcases List.mem_append.mp hp with hp | hp
          · exact h2 p (List.mem_append_left _ hp)
          · exact hs.free p hp
        · rw [jn_snoc, if_neg ha, jn_app ha hs.ne]
          unfold jn2
          rw [if_pos (by rw [← List.cons_append, List.getLast?_concat])]
          simp
        · rw [nf_app, nf_app]; rfl
        · rw [jn_snoc, if_neg ha] at h5
          rw [jn_app ha hs.ne]
          cases hj : jn a with
          | nil => rw [hj] at h5; simp at h5
          | cons c r => rw [hj] at h5; simpa using h5
    · have hlf : Free l := h2 l (by simp)
      have hll : l.getLast? ≠ some 47 := fun e => hlf (List.mem_of_getLast? e)
      have hj : ∃ c r, jn (a ++ [l]) = c :: r := by
        rw [jn_snoc]
        split
        · cases l with
          | nil => exact (hl0 rfl).elim
          | cons c r => exact ⟨c, r, rfl⟩
        · cases jn a with
          | nil => exact ⟨_, _, rfl⟩
          | cons c r => exact ⟨_, _, rfl⟩
      have hlast : (47 :: jn (a ++ [l])).getLast? = l.getLast? := by
        obtain ⟨c, r, hlc⟩ : ∃ c r, l = c :: r := by
          cases l with
          | nil => exact (hl0 rfl).elim
          | cons c r => exact ⟨c, r, rfl⟩
        rw [jn_snoc]
        split
        · subst hlc; rw [List.getLast?_cons_cons]
        · subst hlc; rw [show 47 :: (jn a ++ 47 :: c :: r) = (47 :: jn a ++ [47]) ++ (c :: r) from by simp, List.getLast?_append]; simp [List.getLast?_cons]
      refine ⟨a ++ [l] ++ s, by simp, ?_, ?_, ?_, ?_, by rw [wt_app, wt_app]; omega⟩
      · intro p hp
        rcases List.mem_append.mp hp with hp | hp
        · exact h2 p hp
        · exact hs.free p hp
      · unfold jn2
        rw [if_neg (by rw [hlast]; exact hll), jn_app (by simp) hs.ne]
        rfl
      · rw [nf_app (a ++ [l])]
      · obtain ⟨c, r, hc⟩ := hj
        rw [jn_app (by simp) hs.ne, hc] 
        rw [hc] at h5
        simpa using h5
def Bd : Nat → Nat
  | 0 => 0
  | k + 1 => 8 * (Bd k + 1)
def dq (x : Int) : Nat := (48 + ((if x < 0 then -x else x).fdiv 585).fmod 256).toNat
def d0 (x : Int) : Nat := ((if x < 0 then -x else x).fmod 585).toNat
abbrev DS := List Nat × List (List Nat) × Nat
def dstp (q : Nat) (s : DS) : List (List Nat) := (stepsL q).getD (s.2.2 % 8) []
def dstep (q : Nat) (s : DS) : DS := (jn2 s.1 (jn (dstp q s)), (dstp q s).foldl nstep s.2.1, (s.2.2 - 1) / 8)
def dcond (s : DS) : Bool := decide (s.2.2 > 0)
def DI (k : Nat) (s : DS) : Prop := k ≤ 3 ∧ s.2.2 ≤ Bd k ∧ DInv (3 - k) s.1 s.2.1
theorem dstp_ok {q : Nat} (hq : 48 ≤ q) (s : DS) : StepOk (dstp q s) := by
  have h : s.2.2 % 8 < (stepsL q).length := Nat.mod_lt _ (by decide)
  have : dstp q s = (stepsL q)[s.2.2 % 8] := by simp [dstp, h]
  rw [this]
  exact stepsL_ok hq _ (List.getElem_mem h)
theorem di_step {q : Nat} (hq : 48 ≤ q) (k : Nat) (s : DS) (h : DI (k + 1) s) (hc : dcond s = true) : DI k (dstep q s) := by
  obtain ⟨h1, h2, h3⟩ := h
  have hc := of_decide_eq_true hc
  refine ⟨by omega, ?_, ?_⟩
  · show (s.2.2 - 1) / 8 ≤ Bd k
    have : s.2.2 ≤ 8 * (Bd k + 1) := h2
    omega
  · have := dinv_step h3 (dstp_ok hq s)
    rw [show 3 - k = 3 - (k + 1) + 1 from by omega]
    exact this
def dall (x : Int) : DS := wfold (dstep (dq x)) dcond 3 ([47], [], d0 x)
theorem dq_ge (x : Int) : 48 ≤ dq x ∧ dq x < 400 := by
  unfold dq
  have h1 := Int.fmod_nonneg_of_pos ((if x < 0 then -x else x).fdiv 585) (b := 256) (by decide)
  have h2 := Int.fmod_lt_of_pos ((if x < 0 then -x else x).fdiv 585) (b := 256) (by decide)
  omega
theorem di_init (x : Int) : DI 3 ([47], [], d0 x) := by
  refine ⟨Nat.le_refl _, ?_, ⟨⟨[[]], by decide, by decide, rfl, rfl, by decide, by decide⟩, by simp, Nat.zero_le _⟩⟩
  have h1 := Int.fmod_nonneg_of_pos (if x < 0 then -x else x) (b := 585) (by decide)
  have h2 := Int.fmod_lt_of_pos (if x < 0 then -x else x) (b := 585) (by decide)
  show d0 x ≤ 584
  unfold d0
  omega
theorem dall_inv (x : Int) : DInv 3 (dall x).1 (dall x).2.1 := by
  obtain ⟨k, h1, h2, h3⟩ := wfold_inv (Inv := DI) (di_step (dq_ge x).1) 3 _ (di_init x)
  obtain ⟨⟨ps, e1, e2, e3, e4, e5, e6⟩, v, l⟩ := h3
  exact ⟨⟨ps, e1, e2, e3, e4, e5, by omega⟩, v, Nat.le_trans l (by omega)⟩
def fig (x : Int) : V4 := ⟨x.fmod 2, x.fmod 3, x.fmod 1001 - 500, x.fmod 7⟩
def mkFl (x : Int) : Fl := ((dall x).2.1, fig x)
theorem nf_wt (ps : List (List Nat)) : wt (nf ps) ≤ wt ps := by
  have key : ∀ (l ns : List (List Nat)), wt (l.foldl nstep ns) ≤ wt ns + wt l := by
    intro l
    induction l with
    | nil => intro ns; exact Nat.le_refl _
    | cons p l ih =>
      intro ns
      have h1 := ih (nstep ns p)
      have h2 := nstep_wt ns p
      rw [List.foldl_cons, wt_cons]
      omega
  have := key ps []
  rw [wt_nil] at this
  unfold nf
  omega
theorem mkFl_ok (x : Int) : FlOk (mkFl x) := by
  obtain ⟨⟨ps, e1, e2, e3, e4, e5, e6⟩, v, l⟩ := dall_inv x
  refine ⟨v, l, ?_⟩
  show wt (dall x).2.1 ≤ 300
  have := nf_wt ps
  rw [e4]
  omega
end Mine
namespace Mine
open PySem PySem.Calls PySem.W PyProof.Rows
variable {prog : Program} {w : World} {s₀ : Shared} {n : Nat} {ad : Str → Addr} {env : Env} {σ : Sto}

theorem notin_dots (p : List Nat) : (![Str.ofString "", Str.ofString "."].contains (S p)) = decide (¬ (p = [] ∨ p = [46])) := by
  have h1 : Str.ofString "" = S [] := rfl
  have h2 : Str.ofString "." = S [46] := rfl
  rw [h1, h2]
  by_cases a : p = []
  · subst a; rfl
  · by_cases b : p = [46]
    · subst b; rfl
    · simp [a, b]
set_option maxHeartbeats 8000000 in
theorem c_drawn (G : Gd s₀ ad) (x : Int) : CallT prog w s₀ (n + 4) (.ref (ad r14.name)) [.int x] (fD (mkFl x)) := by
  refine call_def [(Str.ofString "number", .val (.int x))] (f14 G) (defOk1 (by decide) rfl fun _ _ _ _ => by with_unfolding_all rfl) rfl fun L code O => ?_
  conv => arg 7; arg 1; whnf
  obtain ⟨⟨ps, e1, e2, e3, e4, e5, e6⟩, hv, hl⟩ := dall_inv x
  have hax : 0 ≤ (if x < 0 then -x else x).fmod 585 := Int.fmod_nonneg_of_pos _ (by decide)
  have hd0 : ((d0 x : Nat) : Int) = (if x < 0 then -x else x).fmod 585 := Int.toNat_of_nonneg hax
  refine ex_cons (ex_assign_swapped (names := [Str.ofString "spelled", Str.ofString "names", Str.ofString "left"]) (ds := [.str (S [47]), .lst [], .int (d0 x : Int)]) (ev_tuple (evl_cons ev_str (evl_cons (ev_list evl_nil) (evl_cons (hd0 ▸ ev_binop (ev_call_bi (bbi O G) (evl_cons (nm O) evl_nil) ct_abs) ev_int (op_mod_int (by decide))) evl_nil))) (by show 3 ≤ sizeLine; decide)) (by rfl) rfl
    (asgl_cons (asg_bind O) (asgl_cons (asg_bind O) (asgl_cons (asg_bind O) asgl_nil)))) ?_
  let st : DS → Sto := fun s => [(Str.ofString "number", .val (.int x)), (Str.ofString "spelled", .val (.str (S s.1))), (Str.ofString "names", .val (nD s.2.1)), (Str.ofString "left", .val (.int (s.2.2 : Int)))]
  refine ex_weak (SubL.all (τ := st ([47], [], d0 x)) (.cons rfl (.cons rfl (.cons rfl (.cons rfl .nil))))) ?_
  refine ex_cons (ex_while (exw_iter st (dstep (dq x)) dcond DI (fun s => ?_) (fun s h => ?_) (fun k s h hc => ⟨di_step (dq_ge x).1 k s h hc, ?_⟩) 3 _ (di_init x))) ?_
  · have : dcond s = decide ((s.2.2 : Int) > 0) := by unfold dcond; rw [decide_eq_decide]; omega
    rw [this]
    exact evB_compare (nm O) ev_int op_gt_int
  · have : s.2.2 ≤ 0 := h.2.1
    unfold dcond; exact decide_eq_false (by omega)
  · have hs := dstp_ok (dq_ge x).1 s
    have hc := of_decide_eq_true hc
    have hq := (dq_ge x).2
    obtain ⟨⟨qs, g1, g2, g3, g4, g5, g6⟩, hv', hl'⟩ := h.2.2
    have hqd : ((dq x : Nat) : Int) = 48 + ((if x < 0 then -x else x).fdiv 585).fmod 256 := by
      have h1 := Int.fmod_nonneg_of_pos ((if x < 0 then -x else x).fdiv 585) (b := 256) (by decide)
      unfold dq
      omega
    have hchr : CallT prog w s₀ (n + 3) (.builtin "chr") [.int (48 + ((if x < 0 then -x else x).fdiv 585).fmod 256)] (.str (S [dq x])) := by
      have := ct_chr (prog := prog) (w := w) (s₀ := s₀) (n := n + 3) (i := ((dq x : Nat) : Int)) (by omega) (by omega)
      rw [Int.toNat_natCast] at this
      rw [hqd] at this
      exact this
    have hmod : ((s.2.2 : Int)).fmod 8 = ((s.2.2 % 8 : Nat) : Int) := by
      rw [Int.fmod_eq_emod_of_nonneg _ (by decide)]; omega
    have hdiv : ((s.2.2 : Int) - 1).fdiv 8 = (((s.2.2 - 1) / 8 : Nat) : Int) := by
      rw [Int.fdiv_eq_ediv_of_nonneg _ (by decide)]; omega
    have hlt : s.2.2 % 8 < (stepsL (dq x)).length := Nat.mod_lt _ (by decide)
    have hit : ((stepsL (dq x)).map fun s => D.str (S (jn s)))[(((s.2.2 : Int)).fmod 8).toNat]? = some (.str (S (jn (dstp (dq x) s)))) := by
      rw [hmod, Int.toNat_natCast, List.getElem?_map]
      simp [dstp, hlt]
    have hsw := hs.wt
    have hjl := jn_le (dstp (dq x) s)
    have hql := jn_le qs
    have hspl : s.1 ≠ [] := by rw [g3]; simp
    have hspz : s.1.length ≤ 30 := by rw [g3, List.length_cons]; omega
    have hjo : CallT prog w s₀ (n + 3) (.ref (ad r9.name)) [.str (S s.1), .str (S (jn (dstp (dq x) s)))] (.str (S (jn2 s.1 (jn (dstp (dq x) s))))) := c_join G hspl hs.head (by omega)
    have hdst : dstep (dq x) s = (jn2 s.1 (jn (dstp (dq x) s)), (dstp (dq x) s).foldl nstep s.2.1, (s.2.2 - 1) / 8) := rfl
    rw [hdst]
    generalize jn2 s.1 (jn (dstp (dq x) s)) = sp2 at *
    generalize dstp (dq x) s = sps at *
    let st2 : List (List Nat) → Sto := fun ns => [(Str.ofString "number", .val (.int x)), (Str.ofString "spelled", .val (.str (S sp2))), (Str.ofString "names", .val (nD ns)), (Str.ofString "left", .val (.int (s.2.2 : Int)))]
    refine ⟨st (sp2, sps.foldl nstep s.2.1, (s.2.2 - 1) / 8), .inl ?_, fun _ _ h => h⟩
    generalize hE : (Expr.Constant (Const.str (Str.ofString "..")) 0 ⟨189, 39, 189, 43⟩ : Expr) = E5
    refine ex_cons (ex_assign (d := .str (S (jn sps))) (ev_sub (d1 := .lst ((stepsL (dq x)).map fun s => D.str (S (jn s)))) (ev_list (evl_cons ev_str (evl_cons ev_str (evl_cons ev_str (evl_cons ev_str (evl_cons (e := E5) (by subst hE; exact ev_str) (evl_cons ev_str (evl_cons ev_str (evl_cons
      (ev_binop ev_str (ev_call_bi (bbi O G) (evl_cons (ev_binop ev_int (ev_binop (ev_binop (ev_call_bi (bbi O G) (evl_cons (nm O) evl_nil) ct_abs) ev_int (op_div_int (by decide) (by decide))) ev_int (op_mod_int (by decide))) op_add_int) evl_nil) hchr) (op_app (a := [97]) (b := [dq x]) (by show 1 + 1 ≤ 1000; decide))) evl_nil)))
      (by subst hE; rfl)))))) (by show 8 ≤ sizeLine; decide)) (ev_binop (nm O) ev_int (op_mod_int (by decide))) (op_item_lst (by omega) hit)) (asg_name O)) ?_
    clear hE
    refine ex_cons (ex_assign (ev_call_fn (gl O (g9 G)) (evl_cons (nm O) (evl_cons (nm O) evl_nil)) (f9 G).is hjo) (asg_name O)) ?_
    refine ex_weak (SubL.all (τ := st2 s.2.1 ++ [(Str.ofString "step", .val (.str (S (jn sps))))]) (.cons rfl (.cons rfl (.cons rfl (.cons rfl (.cons rfl .nil)))))) ?_
    refine ex_cons (ex_for_fold (fun ns => st2 ns ++ [(Str.ofString "step", .val (.str (S (jn sps))))]) nstep (fun p => D.str (S p)) (fun ns rest => ns.length + rest.length ≤ 200 ∧ ∀ p ∈ rest, Free p) sps s.2.1
        (ev_meth mk_split (nm O) (by rfl) (evl_cons ev_str evl_nil) (ct_split_S hs.ne hs.free (by omega))) src_lst (by rw [List.map_map]; rfl) rfl ⟨?_, hs.free⟩ fun ns p rest hI => ⟨⟨?_, fun j hj => hI.2 j (List.mem_cons_of_mem _ hj)⟩, _, asg_name O, ?_⟩) ?_
    · have := wt_len sps; omega
    · have h1 := hI.1
      have h2 := nstep_len ns p
      rw [List.length_cons] at h1
      omega
    · have h1 := hI.1
      rw [List.length_cons] at h1
      by_cases hp : p = [] ∨ p = [46]
      · have hn : nstep ns p = ns := if_pos hp
        have hb : (![Str.ofString "", Str.ofString "."].contains (S p)) = false := by rw [notin_dots]; exact decide_eq_false (fun h => h hp)
        rw [hn]
        refine ⟨_, .inl (ex_cons (ex_if_false (evB_compare (nm O) (ev_list (ds := [Str.ofString "", Str.ofString "."].map .str) (evl_cons ev_str (evl_cons ev_str evl_nil)) (by show 2 ≤ sizeLine; decide)) (hb ▸ op_notin_lst)) ex_nil) ex_nil), ?_⟩
        exact SubL.all (.cons rfl (.cons rfl (.cons rfl (.cons rfl (.cons rfl .nil)))))
      · have hb : (![Str.ofString "", Str.ofString "."].contains (S p)) = true := by rw [notin_dots]; exact decide_eq_true hp
        refine ⟨(st2 (nstep ns p) ++ [(Str.ofString "step", .val (.str (S (jn sps))))]), .inl (ex_cons (ex_if_true (evB_compare (nm O) (ev_list (ds := [Str.ofString "", Str.ofString "."].map .str) (evl_cons ev_str (evl_cons ev_str evl_nil)) (by show 2 ≤ sizeLine; decide)) (hb ▸ op_notin_lst)) (ex_cons (ex_assign (d := nD (nstep ns p)) ?_ (asg_name O)) ex_nil))
          (ex_weak (SubL.all (.cons rfl (.cons rfl (.cons rfl (.cons rfl (.cons rfl .nil)))))) ex_nil)), fun _ _ h => h⟩
        by_cases hdd : p = [46, 46]
        · have hn : nstep ns p = ns.dropLast := by unfold nstep; rw [if_neg hp, if_pos hdd]
          rw [hn]
          have he : nD ns.dropLast = .lst (lpick ((ns.map S).map .str) none (some (-1))) := by rw [lpick_dropLast, ← List.map_dropLast, ← List.map_dropLast]
          rw [he]
          exact ev_ifexp_true (evB_compare (nm O) ev_str (op_eqS (b := [46, 46]) (by rw [hdd]; rfl))) (ev_sub (nm O) (ev_slice (lo := none) (hi := some (-1)) trivial (ev_unary (ev_int (i := 1)) op_neg_int)) op_slice_lst)
        · have hn : nstep ns p = ns ++ [p] := by unfold nstep; rw [if_neg hp, if_neg hdd]
          rw [hn]
          have he : nD (ns ++ [p]) = .lst (((ns.map S).map .str) ++ [.str (S p)]) := by simp [nD]
          rw [he]
          exact ev_ifexp_false (evB_compare (nm O) ev_str (op_eqS (b := [46, 46]) (by simp [hdd]))) (ev_binop (nm O) (ev_list (evl_cons (nm O) evl_nil) (by show 1 ≤ sizeLine; decide)) (op_add_lst (by simp only [List.length_map, List.length_singleton]; rw [sizeLine_eq]; omega)))
    · refine ex_cons (ex_assign (d := .int (((s.2.2 - 1) / 8 : Nat) : Int)) ?_ (asg_name O)) (ex_weak (SubL.all (.cons rfl (.cons rfl (.cons rfl (.cons rfl .nil))))) ex_nil)
      rw [← hdiv]
      exact ev_binop (ev_binop (nm O) ev_int op_sub_int) ev_int (op_div_int (by decide) (by decide))
  · have hn : CallT prog w s₀ (n + 3) (.ref (ad r12.name)) [.str (S (dall x).1)] (.str (S (pl (dall x).2.1))) := by
      rw [e3, e4]
      exact c_normpath G e1 e2 e5 (by omega)
    exact ex_stop (ex_return (ev_tuple (evl_cons (ev_call_fn (gl O (g12 G)) (evl_cons (nm O) evl_nil) (f12 G).is hn) (evl_cons (nm O) (evl_cons (ev_tuple (evl_cons (ev_binop (nm O) ev_int (op_mod_int (by decide))) (evl_cons (ev_binop (nm O) ev_int (op_mod_int (by decide)))
      (evl_cons (ev_binop (ev_binop (nm O) ev_int (op_mod_int (by decide))) ev_int op_sub_int) (evl_cons (ev_binop (nm O) ev_int (op_mod_int (by decide))) evl_nil)))) (by show 4 ≤ sizeLine; decide)) evl_nil))) (by show 3 ≤ sizeLine; decide)))
end Mine
namespace Mine
open PySem PySem.Calls PySem.W PyProof.Rows

/-! sums of four figures -/
theorem vadd_comm (x y : V4) : vadd x y = vadd y x := by simp [vadd, Int.add_comm]
theorem vadd_assoc (x y z : V4) : vadd (vadd x y) z = vadd x (vadd y z) := by simp [vadd, Int.add_assoc]
theorem vadd_v0 (x : V4) : vadd x v0 = x := by simp [vadd, v0]
theorem v0_vadd (x : V4) : vadd v0 x = x := by simp [vadd, v0]
theorem vadd_left (x y z : V4) : vadd x (vadd y z) = vadd y (vadd x z) := by rw [← vadd_assoc, vadd_comm x y, vadd_assoc]
theorem vsum_nil : vsum [] = v0 := rfl
theorem vsum_cons (x : V4) (l : List V4) : vsum (x :: l) = vadd x (vsum l) := rfl
theorem vsum_app (a b : List V4) : vsum (a ++ b) = vadd (vsum a) (vsum b) := by
  induction a with
  | nil => rw [List.nil_append, vsum_nil, v0_vadd]
  | cons x a ih => rw [List.cons_append, vsum_cons, vsum_cons, ih, vadd_assoc]
theorem vsum_add {α : Type} (f g : α → V4) (l : List α) : vsum (l.map fun a => vadd (f a) (g a)) = vadd (vsum (l.map f)) (vsum (l.map g)) := by
  induction l with
  | nil => rfl
  | cons a l ih => rw [List.map_cons, List.map_cons, List.map_cons, vsum_cons, vsum_cons, vsum_cons, ih, vadd_assoc, vadd_assoc, vadd_left (g a)]
theorem vsum_zero {α : Type} (l : List α) : vsum (l.map fun _ => v0) = v0 := by
  induction l with
  | nil => rfl
  | cons a l ih => rw [List.map_cons, vsum_cons, ih, v0_vadd]
theorem vsum_filter {α : Type} (p : α → Bool) (f : α → V4) (l : List α) : vsum ((l.filter p).map f) = vsum (l.map fun a => if p a then f a else v0) := by
  induction l with
  | nil => rfl
  | cons a l ih =>
    rw [List.filter_cons, List.map_cons, vsum_cons]
    cases p a with
    | true => simp only [if_true, List.map_cons, vsum_cons, ih]
    | false => simp only [Bool.false_eq_true, if_false, v0_vadd, ih]
theorem vsum_swap {α β : Type} (F : α → β → V4) (l : List α) (m : List β) : vsum (l.map fun a => vsum (m.map fun b => F a b)) = vsum (m.map fun b => vsum (l.map fun a => F a b)) := by
  induction m with
  | nil => exact vsum_zero l
  | cons b m ih => simp only [List.map_cons, vsum_cons, vsum_add, ih]
theorem vsum_single (g : Nat → V4) (j : Nat) : ∀ n, vsum ((List.range n).map fun i => if j = i then g i else v0) = if j < n then g j else v0
  | 0 => rfl
  | n + 1 => by
    rw [List.range_succ, List.map_append, vsum_app, vsum_single g j n]
    simp only [List.map_cons, List.map_nil, vsum_cons, vsum_nil, vadd_v0]
    rcases Nat.lt_trichotomy j n with h | h | h
    · rw [if_pos h, if_neg (by omega), if_pos (by omega), vadd_v0]
    · subst h; rw [if_neg (by omega), if_pos rfl, if_pos (by omega), v0_vadd]
    · rw [if_neg (by omega), if_neg (by omega), if_neg (by omega), vadd_v0]
theorem vsum_congr {α : Type} {f g : α → V4} {l : List α} (h : ∀ a ∈ l, f a = g a) : vsum (l.map f) = vsum (l.map g) := by rw [List.map_congr_left h]

/-! lists of pairs -/
abbrev keys {β : Type} (m : List (Str × β)) : List Str := m.map (·.1)
theorem aget_nil {β : Type} (k : Str) : aget ([] : List (Str × β)) k = none := rfl
theorem aget_cons {β : Type} (p : Str × β) (m : List (Str × β)) (k : Str) : aget (p :: m) k = if p.1 = k then some p.2 else aget m k := by
  unfold aget
  rw [List.find?_cons]
  by_cases h : p.1 = k <;> simp [h]
theorem aget_none {β : Type} {m : List (Str × β)} {k : Str} : aget m k = none ↔ k ∉ keys m := by
  induction m with
  | nil => simp [aget_nil]
  | cons p m ih =>
    rw [aget_cons]
    by_cases h : p.1 = k
    · simp [h]
    · rw [if_neg h, ih]; simp [Ne.symm h]
theorem aget_isSome {β : Type} {m : List (Str × β)} {k : Str} : (aget m k).isSome = true ↔ k ∈ keys m := by
  cases h : aget m k with
  | none => simp [aget_none.mp h]
  | some v =>
    have : ¬ (k ∉ keys m) := fun h' => by rw [aget_none.mpr h'] at h; cases h
    simp [Classical.not_not.mp this]
theorem aget_mem {β : Type} {m : List (Str × β)} {k : Str} {v : β} (h : aget m k = some v) : (k, v) ∈ m := by
  induction m with
  | nil => cases h
  | cons p m ih =>
    rw [aget_cons] at h
    by_cases hk : p.1 = k
    · rw [if_pos hk] at h
      cases h
      rw [← hk]
      exact List.mem_cons_self
    · rw [if_neg hk] at h
      exact List.mem_cons_of_mem _ (ih h)
theorem aset_none {β : Type} {m : List (Str × β)} {k : Str} {v : β} (h : aget m k = none) : aset m k v = m ++ [(k, v)] := by
  unfold aset
  rw [if_neg]
  intro h'
  obtain ⟨p, hp, hk⟩ := List.any_eq_true.mp h'
  exact aget_none.mp h ((of_decide_eq_true hk) ▸ List.mem_map_of_mem hp)
theorem aset_some {β : Type} {m : List (Str × β)} {k : Str} {v u : β} (h : aget m k = some u) : aset m k v = m.map fun p => if p.1 = k then (p.1, v) else p := by
  unfold aset
  rw [if_pos]
  exact List.any_eq_true.mpr ⟨_, aget_mem h, by simp⟩
theorem keys_aset {β : Type} {m : List (Str × β)} {k : Str} {v : β} : keys (aset m k v) = if k ∈ keys m then keys m else keys m ++ [k] := by
  cases h : aget m k with
  | none => rw [aset_none h, if_neg (aget_none.mp h)]; simp
  | some u =>
    rw [aset_some h, if_pos (aget_isSome.mp (by rw [h]; rfl))]
    show (m.map _).map _ = m.map _
    rw [List.map_map]
    refine List.map_congr_left fun p _ => ?_
    simp only [Function.comp_def]
    split <;> rfl
theorem mem_keys_aset {β : Type} {m : List (Str × β)} {k k' : Str} {v : β} : k' ∈ keys (aset m k v) ↔ k' = k ∨ k' ∈ keys m := by
  rw [keys_aset]
  split
  · rename_i h
    constructor
    · exact .inr
    · rintro (rfl | h') <;> assumption
  · simp [or_comm]
theorem nodup_aset {β : Type} {m : List (Str × β)} {k : Str} {v : β} (h : (keys m).Nodup) : (keys (aset m k v)).Nodup := by
  rw [keys_aset]
  split
  · exact h
  · rename_i hk
    rw [List.nodup_append]
    refine ⟨h, by simp, fun a ha b hb e => ?_⟩
    rw [List.mem_singleton] at hb
    exact hk (by rw [← hb, ← e]; exact ha)
theorem aget_app {β : Type} (m : List (Str × β)) (k : Str) (v : β) (k' : Str) : aget (m ++ [(k, v)]) k' = (aget m k').or (if k' = k then some v else none) := by
  induction m with
  | nil =>
    rw [List.nil_append, aget_cons, aget_nil]
    by_cases e : k = k'
    · simp [e]
    · simp [e, Ne.symm e]
  | cons p m ih =>
    rw [List.cons_append, aget_cons, aget_cons, ih]
    split <;> simp
theorem aget_upd {β : Type} (m : List (Str × β)) (k : Str) (v : β) (k' : Str) : aget (m.map fun p => if p.1 = k then (p.1, v) else p) k' = if k' = k then (aget m k').map (fun _ => v) else aget m k' := by
  induction m with
  | nil => simp [aget_nil]
  | cons p m ih =>
    rw [List.map_cons, aget_cons, aget_cons, ih]
    by_cases h1 : p.1 = k
    · by_cases h2 : k' = k
      · simp [h1, h2]
      · simp [h1, h2, Ne.symm h2]
    · by_cases h2 : p.1 = k'
      · subst h2; simp [h1]
      · simp [h1, h2]
theorem aget_aset {β : Type} {m : List (Str × β)} {k k' : Str} {v : β} : aget (aset m k v) k' = if k' = k then some v else aget m k' := by
  cases h : aget m k with
  | none =>
    rw [aset_none h, aget_app]
    by_cases e : k' = k
    · subst e; simp [h]
    · simp [e]
  | some u =>
    rw [aset_some h, aget_upd]
    by_cases e : k' = k
    · subst e; simp [h]
    · simp [e]
theorem upd_id {β : Type} {m : List (Str × β)} {k : Str} (h : k ∉ keys m) (v : β) : (m.map fun p => if p.1 = k then (p.1, v) else p) = m := by
  have : ∀ p ∈ m, (if p.1 = k then (p.1, v) else p) = p := fun p hp => if_neg (fun e : p.1 = k => h (by rw [← e]; exact List.mem_map_of_mem hp))
  rw [List.map_congr_left this, List.map_id']
/-- a sum over pairs, one pair changed -/
theorem sum_aset_none {β : Type} {m : List (Str × β)} {k : Str} {v : β} (g : Str × β → V4) (h : aget m k = none) : vsum ((aset m k v).map g) = vadd (vsum (m.map g)) (g (k, v)) := by
  rw [aset_none h, List.map_append, vsum_app]
  show vadd _ (vadd _ v0) = _
  rw [vadd_v0]
theorem sum_aset_some {β : Type} {m : List (Str × β)} {k : Str} {v u : β} {x : V4} (g : Str × β → V4) (hn : (keys m).Nodup) (h : aget m k = some u) (hx : g (k, v) = vadd (g (k, u)) x) : vsum ((aset m k v).map g) = vadd (vsum (m.map g)) x := by
  rw [aset_some h]
  induction m with
  | nil => cases h
  | cons p m ih =>
    have hn' := List.nodup_cons.mp hn
    rw [aget_cons] at h
    by_cases hk : p.1 = k
    · subst hk
      rw [if_pos rfl] at h
      cases h
      rw [List.map_cons, if_pos rfl, upd_id hn'.1, List.map_cons, List.map_cons, vsum_cons, vsum_cons, hx, vadd_assoc, vadd_comm x, ← vadd_assoc]
    · rw [if_neg hk] at h
      rw [List.map_cons, if_neg hk, List.map_cons, List.map_cons, vsum_cons, vsum_cons, ih hn'.2 h, vadd_assoc]
theorem nsum_aset {β : Type} {m : List (Str × β)} {k : Str} {v : β} (g : β → Nat) (x : Nat) (hn : (keys m).Nodup) (hx : g v ≤ ((aget m k).elim 0 g) + x) : ((aset m k v).map fun p => g p.2).sum ≤ (m.map fun p => g p.2).sum + x := by
  cases h : aget m k with
  | none =>
    rw [aset_none h, List.map_append, List.sum_append]
    rw [h] at hx
    simp only [Option.elim] at hx
    simp only [List.map_cons, List.map_nil, List.sum_cons, List.sum_nil]
    omega
  | some u =>
    rw [aset_some h]
    rw [h] at hx
    simp only [Option.elim] at hx
    induction m with
    | nil => cases h
    | cons p m ih =>
      have hn' := List.nodup_cons.mp hn
      rw [aget_cons] at h
      by_cases hk : p.1 = k
      · subst hk
        rw [if_pos rfl] at h
        cases h
        rw [List.map_cons, if_pos rfl, upd_id hn'.1, List.map_cons, List.map_cons, List.sum_cons, List.sum_cons]
        show g v + _ ≤ _
        omega
      · rw [if_neg hk] at h
        have := ih hn'.2 h
        rw [List.map_cons, if_neg hk, List.map_cons, List.map_cons, List.sum_cons, List.sum_cons]
        omega

/-! sums over callers -/
def csum1 (q : Str → Bool) (m : Cs) : V4 := vsum (m.map fun e => if q e.1 then e.2 else v0)
theorem csum1_add1 {q : Str → Bool} {m : Cs} {p : Str × V4} (hn : (keys m).Nodup) : csum1 q (add1 m p) = vadd (csum1 q m) (if q p.1 then p.2 else v0) := by
  unfold csum1 add1
  cases h : aget m p.1 with
  | none => exact sum_aset_none _ h
  | some u =>
    refine sum_aset_some _ hn h ?_
    cases q p.1 <;> simp [v0_vadd]
theorem nodup_add1 {m : Cs} {p : Str × V4} (h : (keys m).Nodup) : (keys (add1 m p)).Nodup := nodup_aset h
theorem mem_add1 {m : Cs} {p : Str × V4} {k : Str} : k ∈ keys (add1 m p) ↔ k = p.1 ∨ k ∈ keys m := mem_keys_aset
theorem fold_add1 {q : Str → Bool} : ∀ (s m : Cs), (keys m).Nodup → csum1 q (s.foldl add1 m) = vadd (csum1 q m) (csum1 q s) ∧ (keys (s.foldl add1 m)).Nodup ∧ ∀ k, k ∈ keys (s.foldl add1 m) ↔ k ∈ keys m ∨ k ∈ keys s
  | [], m, h => ⟨(vadd_v0 _).symm, h, by simp⟩
  | p :: s, m, h => by
    obtain ⟨h1, h2, h3⟩ := fold_add1 (q := q) s (add1 m p) (nodup_add1 h)
    refine ⟨?_, h2, fun k => ?_⟩
    · rw [List.foldl_cons, h1, csum1_add1 h, vadd_assoc]; rfl
    · rw [List.foldl_cons, h3, mem_add1]
      simp only [List.map_cons, List.mem_cons]
      constructor
      · rintro ((h | h) | h)
        · exact .inr (.inl h)
        · exact .inl h
        · exact .inr (.inr h)
      · rintro (h | h | h)
        · exact .inl (.inr h)
        · exact .inl (.inl h)
        · exact .inr h
theorem fold_aset_self : ∀ (t m : Cs), (keys (m ++ t)).Nodup → t.foldl (fun m p => aset m p.1 p.2) m = m ++ t
  | [], m, _ => by simp
  | p :: t, m, h => by
    have hk : p.1 ∉ keys m := by
      intro hp
      have h : (m.map (·.1) ++ (p :: t).map (·.1)).Nodup := by rw [← List.map_append]; exact h
      rw [List.nodup_append] at h
      exact h.2.2 _ hp p.1 (by simp) rfl
    rw [List.foldl_cons, aset_none (aget_none.mpr hk), fold_aset_self t (m ++ [(p.1, p.2)]) (by simpa using h)]
    simp
theorem addC_spec {q : Str → Bool} {t s : Cs} (h : (keys t).Nodup) : csum1 q (addC t s) = vadd (csum1 q t) (csum1 q s) ∧ (keys (addC t s)).Nodup ∧ ∀ k, k ∈ keys (addC t s) ↔ k ∈ keys t ∨ k ∈ keys s := by
  unfold addC
  rw [fold_aset_self t [] (by simpa using h)]
  exact fold_add1 s ([] ++ t) (by simpa using h)
theorem gstep1_fold {q : Str → Bool} {L : Nat} : ∀ (cs acc : Cs), (keys acc).Nodup → csum1 q (cs.foldl (gstep1 L) acc) = vadd (csum1 q acc) (csum1 (fun k => q (abv L k)) cs) ∧ (keys (cs.foldl (gstep1 L) acc)).Nodup ∧
    ∀ k, k ∈ keys (cs.foldl (gstep1 L) acc) ↔ k ∈ keys acc ∨ ∃ e ∈ cs, abv L e.1 = k
  | [], acc, h => ⟨(vadd_v0 _).symm, h, by simp⟩
  | p :: cs, acc, h => by
    obtain ⟨a1, a2, a3⟩ := addC_spec (q := q) (s := [(abv L p.1, p.2)]) h
    obtain ⟨h1, h2, h3⟩ := gstep1_fold (q := q) (L := L) cs (gstep1 L acc p) a2
    refine ⟨?_, h2, fun k => ?_⟩
    · rw [List.foldl_cons, h1]
      show vadd (csum1 q (addC acc _)) _ = _
      rw [a1, vadd_assoc]
      congr 1
      show vadd (vadd _ v0) _ = vadd _ _
      rw [vadd_v0]
      rfl
    · rw [List.foldl_cons, h3]
      show k ∈ keys (addC acc _) ∨ _ ↔ _
      rw [a3]
      simp only [List.map_cons, List.map_nil, List.mem_cons, List.not_mem_nil, or_false, exists_eq_or_imp]
      rw [or_assoc, eq_comm]
theorem gcall_spec {q : Str → Bool} {L : Nat} (cs : Cs) : csum1 q (gcall L cs) = csum1 (fun k => q (abv L k)) cs ∧ (keys (gcall L cs)).Nodup ∧ ∀ k, k ∈ keys (gcall L cs) ↔ ∃ e ∈ cs, abv L e.1 = k := by
  obtain ⟨h1, h2, h3⟩ := gstep1_fold (q := q) (L := L) cs [] List.nodup_nil
  refine ⟨?_, h2, fun k => ?_⟩
  · unfold gcall
    rw [h1]
    exact v0_vadd _
  · unfold gcall
    rw [h3]
    simp
end Mine
namespace Mine
open PySem PySem.Calls PySem.W PyProof.Rows

/-! sums over rows -/
def fsum (p : Str → Bool) (T : List Row) : V4 := vsum (T.map fun r => if p r.1 then r.2.1 else v0)
def csum (rho : Str → Str → Bool) (T : List Row) : V4 := vsum (T.map fun r => csum1 (rho r.1) r.2.2)
def hasP (T : List Row) (h k : Str) : Prop := ∃ r ∈ T, r.1 = h ∧ k ∈ keys r.2.2
structure TOk (T : List Row) : Prop where
  nd : (keys T).Nodup
  cs : ∀ r ∈ T, (keys r.2.2).Nodup
theorem csum1_nil (q : Str → Bool) : csum1 q [] = v0 := rfl
theorem oldOf_nd {T : List Row} (h : TOk T) (k : Str) : (keys (oldOf T k).2).Nodup := by
  unfold oldOf
  cases hg : aget T k with
  | none => exact List.nodup_nil
  | some u => exact h.cs _ (aget_mem hg)
theorem mem_of_get {T : List Row} (h : (keys T).Nodup) {r : Row} (hr : r ∈ T) : aget T r.1 = some r.2 := aget_of_mem h hr
theorem gstep_spec {L : Nat} {T : List Row} (r : Row) (h : TOk T) : TOk (gstep L T r) ∧ (∀ p, fsum p (gstep L T r) = vadd (fsum p T) (if p (abv L r.1) then r.2.1 else v0)) ∧
    (∀ rho : Str → Str → Bool, csum rho (gstep L T r) = vadd (csum rho T) (csum1 (fun k => rho (abv L r.1) (abv L k)) r.2.2)) ∧ (∀ k, k ∈ keys (gstep L T r) ↔ k = abv L r.1 ∨ k ∈ keys T) ∧
    (∀ a b, hasP (gstep L T r) a b ↔ hasP T a b ∨ (abv L r.1 = a ∧ ∃ e ∈ r.2.2, abv L e.1 = b)) ∧ rw' (gstep L T r) ≤ rw' T + r.2.2.length := by
  have ho := oldOf_nd h (abv L r.1)
  obtain ⟨_, g2, g3⟩ := gcall_spec (q := fun _ => true) (L := L) r.2.2
  obtain ⟨_, a2, a3⟩ := addC_spec (q := fun _ => true) (s := gcall L r.2.2) ho
  refine ⟨⟨nodup_aset h.nd, fun t ht => ?_⟩, fun p => ?_, fun rho => ?_, fun k => mem_keys_aset, fun a b => ?_, ?_⟩
  · rcases mem_aset ht with e | e
    · rw [e]; exact a2
    · exact h.cs t e
  · unfold fsum gstep
    cases hg : aget T (abv L r.1) with
    | none =>
      have : oldOf T (abv L r.1) = (v0, []) := by unfold oldOf; rw [hg]; rfl
      rw [sum_aset_none _ hg, this]
      simp only [vadd_v0]
    | some u =>
      have : oldOf T (abv L r.1) = u := by unfold oldOf; rw [hg]; rfl
      rw [this]
      refine sum_aset_some _ h.nd hg ?_
      cases p (abv L r.1) with
      | true => simp only [if_true]; exact vadd_comm _ _
      | false => simp only [Bool.false_eq_true, if_false, vadd_v0]
  · obtain ⟨b1, _, _⟩ := addC_spec (q := rho (abv L r.1)) (s := gcall L r.2.2) ho
    obtain ⟨c1, _, _⟩ := gcall_spec (q := rho (abv L r.1)) (L := L) r.2.2
    unfold csum gstep
    cases hg : aget T (abv L r.1) with
    | none =>
      have ho' : oldOf T (abv L r.1) = (v0, []) := by unfold oldOf; rw [hg]; rfl
      rw [sum_aset_none _ hg]
      show vadd _ (csum1 (rho (abv L r.1)) (addC _ _)) = _
      rw [b1, c1, ho']
      simp only [csum1_nil, v0_vadd]
    | some u =>
      have ho' : oldOf T (abv L r.1) = u := by unfold oldOf; rw [hg]; rfl
      refine sum_aset_some _ h.nd hg ?_
      show csum1 (rho (abv L r.1)) (addC _ _) = vadd (csum1 (rho (abv L r.1)) u.2) _
      rw [b1, c1, ho']
  · constructor
    · rintro ⟨t, ht, rfl, hk⟩
      rcases mem_aset ht with e | e
      · rw [e] at hk ⊢
        have hk := (a3 b).mp hk
        rcases hk with hk | hk
        · left
          unfold oldOf at hk
          cases hg : aget T (abv L r.1) with
          | none => rw [hg] at hk; cases hk
          | some u => rw [hg] at hk; exact ⟨_, aget_mem hg, rfl, hk⟩
        · exact .inr ⟨rfl, (g3 b).mp hk⟩
      · exact .inl ⟨t, e, rfl, hk⟩
    · intro hh
      have key : ∀ b, b ∈ keys (addC (oldOf T (abv L r.1)).2 (gcall L r.2.2)) → hasP (gstep L T r) (abv L r.1) b := fun b hb => by
        have hm : aget (gstep L T r) (abv L r.1) = some (vadd r.2.1 (oldOf T (abv L r.1)).1, addC (oldOf T (abv L r.1)).2 (gcall L r.2.2)) := by unfold gstep; rw [aget_aset, if_pos rfl]
        exact ⟨_, aget_mem hm, rfl, hb⟩
      rcases hh with ⟨t, ht, rfl, hk⟩ | ⟨rfl, he⟩
      · by_cases e : t.1 = abv L r.1
        · rw [e]
          refine key b ((a3 b).mpr (.inl ?_))
          have : aget T (abv L r.1) = some t.2 := e ▸ mem_of_get h.nd ht
          unfold oldOf
          rw [this]
          exact hk
        · have : aget (gstep L T r) t.1 = some t.2 := by unfold gstep; rw [aget_aset, if_neg e]; exact mem_of_get h.nd ht
          exact ⟨_, aget_mem this, rfl, hk⟩
      · exact key b ((a3 b).mpr (.inr ((g3 b).mpr he)))
  · refine nsum_aset (g := fun u : V4 × Cs => u.2.length) r.2.2.length h.nd ?_
    have h1 := addC_len (oldOf T (abv L r.1)).2 (gcall L r.2.2)
    have h2 := gcall_len L r.2.2
    have h3 : (oldOf T (abv L r.1)).2.length = (aget T (abv L r.1)).elim 0 (fun u : V4 × Cs => u.2.length) := by
      unfold oldOf
      cases aget T (abv L r.1) <;> rfl
    show (addC _ _).length ≤ _
    omega
theorem gfold_spec {L : Nat} : ∀ (rows T : List Row), TOk T → TOk (rows.foldl (gstep L) T) ∧ (∀ p, fsum p (rows.foldl (gstep L) T) = vadd (fsum p T) (fsum (fun k => p (abv L k)) rows)) ∧
    (∀ rho : Str → Str → Bool, csum rho (rows.foldl (gstep L) T) = vadd (csum rho T) (csum (fun a b => rho (abv L a) (abv L b)) rows)) ∧ (∀ k, k ∈ keys (rows.foldl (gstep L) T) ↔ k ∈ keys T ∨ ∃ r ∈ rows, abv L r.1 = k) ∧
    (∀ a b, hasP (rows.foldl (gstep L) T) a b ↔ hasP T a b ∨ ∃ r ∈ rows, abv L r.1 = a ∧ ∃ e ∈ r.2.2, abv L e.1 = b) ∧ rw' (rows.foldl (gstep L) T) ≤ rw' T + rw' rows ∧ (rows.foldl (gstep L) T).length ≤ T.length + rows.length
  | [], T, h => ⟨h, fun _ => (vadd_v0 _).symm, fun _ => (vadd_v0 _).symm, by simp, by simp, Nat.le_add_right _ _, Nat.le_refl _⟩
  | r :: rows, T, h => by
    obtain ⟨a1, a2, a3, a4, a5, a6⟩ := gstep_spec (L := L) r h
    obtain ⟨b1, b2, b3, b4, b5, b6, b7⟩ := gfold_spec (L := L) rows (gstep L T r) a1
    refine ⟨b1, fun p => ?_, fun rho => ?_, fun k => ?_, fun a b => ?_, ?_, ?_⟩
    · rw [List.foldl_cons, b2, a2, vadd_assoc]; rfl
    · rw [List.foldl_cons, b3, a3, vadd_assoc]; rfl
    · rw [List.foldl_cons, b4, a4]
      simp only [List.mem_cons, exists_eq_or_imp]
      constructor
      · rintro ((h | h) | h)
        · exact .inr (.inl h.symm)
        · exact .inl h
        · exact .inr (.inr h)
      · rintro (h | h | h)
        · exact .inl (.inr h)
        · exact .inl (.inl h.symm)
        · exact .inr h
    · rw [List.foldl_cons, b5, a5]
      simp only [List.mem_cons, exists_eq_or_imp, or_assoc]
    · have : rw' (r :: rows) = r.2.2.length + rw' rows := by simp [rw']
      rw [List.foldl_cons]
      omega
    · have h1 : (gstep L T r).length ≤ T.length + 1 := aset_len
      rw [List.foldl_cons, List.length_cons]
      omega
theorem gather_spec (L : Nat) (rows : List Row) : TOk (gather L rows) ∧ (∀ p, fsum p (gather L rows) = fsum (fun k => p (abv L k)) rows) ∧
    (∀ rho : Str → Str → Bool, csum rho (gather L rows) = csum (fun a b => rho (abv L a) (abv L b)) rows) ∧ (∀ k, k ∈ keys (gather L rows) ↔ ∃ r ∈ rows, abv L r.1 = k) ∧
    (∀ a b, hasP (gather L rows) a b ↔ ∃ r ∈ rows, abv L r.1 = a ∧ ∃ e ∈ r.2.2, abv L e.1 = b) ∧ rw' (gather L rows) ≤ rw' rows ∧ (gather L rows).length ≤ rows.length := by
  obtain ⟨b1, b2, b3, b4, b5, b6, b7⟩ := gfold_spec (L := L) rows [] ⟨List.nodup_nil, fun _ h => nomatch h⟩
  refine ⟨b1, fun p => ?_, fun rho => ?_, fun k => ?_, fun a b => ?_, ?_, ?_⟩
  · unfold gather; rw [b2]; exact v0_vadd _
  · unfold gather; rw [b3]; exact v0_vadd _
  · unfold gather; rw [b4]; simp
  · unfold gather; rw [b5]; simp [hasP]
  · have : rw' [] = 0 := rfl
    unfold gather; omega
  · unfold gather; simpa using b7

/-! what the rows say, at a level -/
structure Spec (fs : List Fl) (cs : List Cl) (M : Nat) (rows : List Row) : Prop where
  a : ∀ p : Str → Bool, fsum p rows = vsum ((List.range fs.length).map fun i => if p (hm fs M i) then (flAt fs i).2 else v0)
  b : ∀ h, h ∈ keys rows ↔ ∃ i, i < fs.length ∧ hm fs M i = h
  c : ∀ rho : Str → Str → Bool, csum rho rows = vsum (cs.map fun c => if rho (hm fs M c.2.1) (hm fs M c.1) then c.2.2 else v0)
  d : ∀ h k, hasP rows h k ↔ ∃ c ∈ cs, hm fs M c.2.1 = h ∧ hm fs M c.1 = k
  nd : ∀ r ∈ rows, (keys r.2.2).Nodup
theorem abv_hm {fs : List Fl} (hf : ∀ f ∈ fs, FlOk f) {L M i : Nat} (hL : L ≤ M) (hi : i < fs.length) : abv L (hm fs M i) = hm fs L i := by
  have h := (flAt_ok hf hi).1
  unfold hm hmf
  rw [abv_pl (vn_take h M), List.take_take, Nat.min_eq_left hL]
theorem spec_gather {fs : List Fl} {cs : List Cl} (hf : ∀ f ∈ fs, FlOk f) (hc : ∀ c ∈ cs, ClOk fs.length c) {L M : Nat} (hL : L ≤ M) {rows : List Row} (h : Spec fs cs M rows) : Spec fs cs L (gather L rows) := by
  obtain ⟨b1, b2, b3, b4, b5, _, _⟩ := gather_spec L rows
  refine ⟨fun p => ?_, fun k => ?_, fun rho => ?_, fun a b => ?_, b1.cs⟩
  · rw [b2, h.a]
    exact vsum_congr fun i hi => by rw [abv_hm hf hL (List.mem_range.mp hi)]
  · rw [b4]
    constructor
    · rintro ⟨r, hr, rfl⟩
      obtain ⟨i, hi, e⟩ := (h.b r.1).mp (List.mem_map_of_mem hr)
      exact ⟨i, hi, by rw [← e, abv_hm hf hL hi]⟩
    · rintro ⟨i, hi, rfl⟩
      obtain ⟨r, hr, e⟩ := List.mem_map.mp ((h.b (hm fs M i)).mpr ⟨i, hi, rfl⟩)
      exact ⟨r, hr, by rw [e, abv_hm hf hL hi]⟩
  · rw [b3, h.c]
    exact vsum_congr fun c hcm => by rw [abv_hm hf hL (hc c hcm).1, abv_hm hf hL (hc c hcm).2]
  · rw [b5]
    constructor
    · rintro ⟨r, hr, rfl, e, he, rfl⟩
      obtain ⟨c, hcm, e1, e2⟩ := (h.d r.1 e.1).mp ⟨r, hr, rfl, List.mem_map_of_mem he⟩
      exact ⟨c, hcm, by rw [← e1, abv_hm hf hL (hc c hcm).2], by rw [← e2, abv_hm hf hL (hc c hcm).1]⟩
    · rintro ⟨c, hcm, rfl, rfl⟩
      obtain ⟨r, hr, e1, e2⟩ := (h.d (hm fs M c.2.1) (hm fs M c.1)).mpr ⟨c, hcm, rfl, rfl⟩
      obtain ⟨e, he, e3⟩ := List.mem_map.mp e2
      exact ⟨r, hr, by rw [e1, abv_hm hf hL (hc c hcm).2], e, he, by rw [e3, abv_hm hf hL (hc c hcm).1]⟩
theorem keyAt_hm {fs : List Fl} (hf : ∀ f ∈ fs, FlOk f) {i : Nat} (hi : i < fs.length) : keyAt fs i = hm fs 3 i := by
  have h := (flAt_ok hf hi).2.1
  unfold keyAt hm hmf
  rw [List.take_of_length_le h]
theorem ecall_spec {fs : List Fl} (i : Nat) (q : Str → Bool) : ∀ (cs : List Cl) (m : Cs), (keys m).Nodup → csum1 q (cs.foldl (estep fs i) m) = vadd (csum1 q m) (vsum (cs.map fun c => if c.2.1 = i then (if q (keyAt fs c.1) then c.2.2 else v0) else v0)) ∧
    (keys (cs.foldl (estep fs i) m)).Nodup ∧ (∀ k, k ∈ keys (cs.foldl (estep fs i) m) ↔ k ∈ keys m ∨ ∃ c ∈ cs, c.2.1 = i ∧ keyAt fs c.1 = k) ∧ (cs.foldl (estep fs i) m).length ≤ m.length + cs.length
  | [], m, h => ⟨(vadd_v0 _).symm, h, by simp, Nat.le_refl _⟩
  | c :: cs, m, h => by
    by_cases hci : c.2.1 = i
    · have he : estep fs i m c = addC m [(keyAt fs c.1, c.2.2)] := if_pos hci
      obtain ⟨a1, a2, a3⟩ := addC_spec (q := q) (s := [(keyAt fs c.1, c.2.2)]) h
      have a4 := addC_len m [(keyAt fs c.1, c.2.2)]
      rw [← he] at a1 a2 a3 a4
      obtain ⟨b1, b2, b3, b4⟩ := ecall_spec (fs := fs) i q cs _ a2
      refine ⟨?_, b2, fun k => ?_, ?_⟩
      · rw [List.foldl_cons, b1, a1, vadd_assoc, List.map_cons, vsum_cons, if_pos hci]
        congr 2
        exact vadd_v0 _
      · rw [List.foldl_cons, b3, a3]
        simp only [List.map_cons, List.map_nil, List.mem_cons, List.not_mem_nil, or_false, exists_eq_or_imp, hci, true_and]
        rw [or_assoc]
        constructor
        · rintro (h | h | h)
          · exact .inl h
          · exact .inr (.inl h.symm)
          · exact .inr (.inr h)
        · rintro (h | h | h)
          · exact .inl h
          · exact .inr (.inl h.symm)
          · exact .inr (.inr h)
      · rw [List.foldl_cons, List.length_cons]
        rw [List.length_singleton] at a4
        omega
    · have he : estep fs i m c = m := if_neg hci
      obtain ⟨b1, b2, b3, b4⟩ := ecall_spec (fs := fs) i q cs m h
      refine ⟨?_, ?_, fun k => ?_, ?_⟩
      · rw [List.foldl_cons, he, b1, List.map_cons, vsum_cons, if_neg hci, v0_vadd]
      · rw [List.foldl_cons, he]; exact b2
      · rw [List.foldl_cons, he, b3]
        simp only [List.mem_cons, exists_eq_or_imp, hci, false_and, false_or]
      · rw [List.foldl_cons, he, List.length_cons]; omega
theorem spec_rows {fs : List Fl} {cs : List Cl} (hf : ∀ f ∈ fs, FlOk f) (hc : ∀ c ∈ cs, ClOk fs.length c) : Spec fs cs 3 (mkRows fs cs) := by
  have hE := fun i q => ecall_spec (fs := fs) i q cs [] List.nodup_nil
  refine ⟨fun p => ?_, fun h => ?_, fun rho => ?_, fun h k => ?_, fun r hr => ?_⟩
  · unfold fsum mkRows
    rw [List.map_map]
    exact vsum_congr fun i hi => by
      show (if p (keyAt fs i) then (flAt fs i).2 else v0) = _
      rw [keyAt_hm hf (List.mem_range.mp hi)]
  · unfold mkRows
    constructor
    · intro hm
      obtain ⟨r, hr, rfl⟩ := List.mem_map.mp hm
      obtain ⟨i, hi, rfl⟩ := List.mem_map.mp hr
      exact ⟨i, List.mem_range.mp hi, (keyAt_hm hf (List.mem_range.mp hi)).symm⟩
    · rintro ⟨i, hi, rfl⟩
      exact List.mem_map.mpr ⟨_, List.mem_map_of_mem (List.mem_range.mpr hi), keyAt_hm hf hi⟩
  · unfold csum mkRows
    rw [List.map_map]
    have h1 : ((List.range fs.length).map ((fun r : Row => csum1 (rho r.1) r.2.2) ∘ mkRow fs cs)) = (List.range fs.length).map fun i => vsum (cs.map fun c => if c.2.1 = i then (if rho (keyAt fs i) (keyAt fs c.1) then c.2.2 else v0) else v0) := by
      refine List.map_congr_left fun i _ => ?_
      show csum1 (rho (keyAt fs i)) (ecall fs cs i) = _
      unfold ecall
      rw [(hE i _).1]
      exact v0_vadd _
    rw [h1, vsum_swap]
    refine vsum_congr fun c hcm => ?_
    rw [vsum_single (fun i => if rho (keyAt fs i) (keyAt fs c.1) then c.2.2 else v0), if_pos (hc c hcm).2, keyAt_hm hf (hc c hcm).2, keyAt_hm hf (hc c hcm).1]
  · unfold hasP mkRows
    constructor
    · rintro ⟨r, hr, rfl, hk⟩
      obtain ⟨i, hi, rfl⟩ := List.mem_map.mp hr
      rcases ((hE i fun _ => true).2.2.1 k).mp hk with h0 | ⟨c, hcm, rfl, rfl⟩
      · cases h0
      · exact ⟨c, hcm, (keyAt_hm hf (hc c hcm).2).symm, (keyAt_hm hf (hc c hcm).1).symm⟩
    · rintro ⟨c, hcm, rfl, rfl⟩
      exact ⟨mkRow fs cs c.2.1, List.mem_map_of_mem (List.mem_range.mpr (hc c hcm).2), keyAt_hm hf (hc c hcm).2, ((hE c.2.1 fun _ => true).2.2.1 _).mpr (.inr ⟨c, hcm, rfl, keyAt_hm hf (hc c hcm).1⟩)⟩
  · obtain ⟨i, hi, rfl⟩ := List.mem_map.mp hr
    exact (hE i fun _ => true).2.1
theorem rows_small (fs : List Fl) (cs : List Cl) : (mkRows fs cs).length = fs.length ∧ rw' (mkRows fs cs) ≤ fs.length * cs.length := by
  refine ⟨by simp [mkRows], ?_⟩
  unfold rw' mkRows
  have key : ∀ l : List Nat, ((l.map (mkRow fs cs)).map fun r => r.2.2.length).sum ≤ l.length * cs.length := by
    intro l
    induction l with
    | nil => simp
    | cons i l ih =>
      have h1 := (ecall_spec (fs := fs) i (fun _ => true) cs [] List.nodup_nil).2.2.2
      have h2 : (ecall fs cs i).length ≤ cs.length := by
        unfold ecall
        simpa using h1
      rw [List.map_cons, List.map_cons, List.sum_cons, List.length_cons, Nat.succ_mul]
      show (ecall fs cs i).length + _ ≤ _
      omega
  have := key (List.range fs.length)
  rwa [List.length_range] at this
end Mine
namespace Mine
open PySem PySem.Calls PySem.W PyProof.Rows

theorem len_le_of_sub {α : Type} [DecidableEq α] : ∀ {a b : List α}, a.Nodup → (∀ x ∈ a, x ∈ b) → a.length ≤ b.length
  | [], _, _, _ => Nat.zero_le _
  | x :: a, b, hn, h => by
    have hn' := List.nodup_cons.mp hn
    have hx := h x List.mem_cons_self
    have h1 := len_le_of_sub (a := a) (b := b.erase x) hn'.2 fun y hy => (List.mem_erase_of_ne (fun e : y = x => hn'.1 (by rw [← e]; exact hy))).mpr (h y (List.mem_cons_of_mem _ hy))
    have h2 := List.length_erase_of_mem hx
    have h3 := List.length_pos_of_mem hx
    rw [List.length_cons]
    omega
theorem len_eq_of_mem {α : Type} [DecidableEq α] {a b : List α} (ha : a.Nodup) (hb : b.Nodup) (h : ∀ x, x ∈ a ↔ x ∈ b) : a.length = b.length :=
  Nat.le_antisymm (len_le_of_sub ha fun x hx => (h x).mp hx) (len_le_of_sub hb fun x hx => (h x).mpr hx)
theorem sum_pick {β : Type} {m : List (Str × β)} {k : Str} (g : Str × β → V4) (hn : (keys m).Nodup) : vsum (m.map fun p => if p.1 = k then g p else v0) = (aget m k).elim v0 fun u => g (k, u) := by
  induction m with
  | nil => rfl
  | cons p m ih =>
    have hn' := List.nodup_cons.mp hn
    rw [List.map_cons, vsum_cons, ih hn'.2, aget_cons]
    by_cases h : p.1 = k
    · subst h
      rw [if_pos rfl, if_pos rfl, aget_none.mpr hn'.1]
      exact vadd_v0 _
    · rw [if_neg h, if_neg h, v0_vadd]
theorem fsum_at {T : List Row} {h : Str} (hn : (keys T).Nodup) : fsum (fun x => decide (x = h)) T = (aget T h).elim v0 (·.1) := by
  have := sum_pick (k := h) (fun r : Row => r.2.1) hn
  rw [← this]
  unfold fsum
  exact vsum_congr fun r _ => by by_cases e : r.1 = h <;> simp [e]
theorem csum1_at {m : Cs} {k : Str} (hn : (keys m).Nodup) : csum1 (fun x => decide (x = k)) m = (aget m k).getD v0 := by
  have h1 := sum_pick (k := k) (fun e : Str × V4 => e.2) hn
  have h2 : (aget m k).elim v0 (fun u => u) = (aget m k).getD v0 := by cases aget m k <;> rfl
  rw [← h2, ← h1]
  unfold csum1
  exact vsum_congr fun e _ => by by_cases h : e.1 = k <;> simp [h]
theorem csum1_false (m : Cs) : csum1 (fun _ => false) m = v0 := vsum_zero m
theorem csum_at {T : List Row} {h k : Str} (hT : TOk T) : csum (fun a b => decide (a = h) && decide (b = k)) T = (aget T h).elim v0 fun u => (aget u.2 k).getD v0 := by
  have h1 : csum (fun a b => decide (a = h) && decide (b = k)) T = vsum (T.map fun r => if r.1 = h then csum1 (fun x => decide (x = k)) r.2.2 else v0) := by
    unfold csum
    exact vsum_congr fun r _ => by
      by_cases e : r.1 = h
      · simp [e]
      · simp [e, csum1_false]
  rw [h1, sum_pick (k := h) (fun r : Row => csum1 (fun x => decide (x = k)) r.2.2) hT.nd]
  cases hg : aget T h with
  | none => rfl
  | some u => exact csum1_at (hT.cs _ (aget_mem hg))

/-! the ledger as a table -/
theorem lcs_get {fs : List Fl} {L : Nat} {here : List Cl} {k : Str} : ∀ (l : List Cl) (m : Cs), aget (l.foldl (lcstep fs L here) m) k = if k ∈ l.map (fun c => hm fs L c.1) then some (vsum (lat fs L here k)) else aget m k
  | [], m => by simp
  | c :: l, m => by
    rw [List.foldl_cons, lcs_get l, List.map_cons]
    unfold lcstep
    rw [aget_aset]
    by_cases h1 : k ∈ l.map (fun c => hm fs L c.1)
    · rw [if_pos h1, if_pos (List.mem_cons_of_mem _ h1)]
    · rw [if_neg h1]
      by_cases h2 : k = hm fs L c.1
      · rw [if_pos h2, if_pos (by rw [h2]; exact List.mem_cons_self), h2]
      · rw [if_neg h2, if_neg]
        intro h3
        rcases List.mem_cons.mp h3 with h3 | h3
        · exact h2 h3
        · exact h1 h3
theorem lcs_nodup {fs : List Fl} {L : Nat} {here : List Cl} : ∀ (l : List Cl) (m : Cs), (keys m).Nodup → (keys (l.foldl (lcstep fs L here) m)).Nodup
  | [], _, h => h
  | c :: l, m, h => lcs_nodup l _ (nodup_aset h)
def lval (fs : List Fl) (cs : List Cl) (L : Nat) (h : Str) : V4 × Cs := (vsum (lfig fs L h), lcs fs L (lhere fs cs L h))
theorem ledger_get {fs : List Fl} {cs : List Cl} {L : Nat} {k : Str} : ∀ (hs : List Str) (T : List Row), (∀ h, aget T h = none ∨ aget T h = some (lval fs cs L h)) → aget (hs.foldl (lstep fs cs L) T) k = if k ∈ hs then some (lval fs cs L k) else aget T k
  | [], T, _ => by simp
  | h :: hs, T, hT => by
    have hstep : ∀ k, aget (lstep fs cs L T h) k = if k = h then some (lval fs cs L h) else aget T k := fun k => by
      unfold lstep
      rcases hT h with e | e
      · rw [e]
        simp only [Option.isSome_none, Bool.false_eq_true, if_false]
        rw [aget_aset]; rfl
      · rw [e]
        simp only [Option.isSome_some, if_true]
        by_cases hk : k = h
        · subst hk; rw [if_pos rfl, e]
        · rw [if_neg hk]
    rw [List.foldl_cons, ledger_get hs _ (fun k => by
      rw [hstep]
      by_cases hk : k = h
      · subst hk; rw [if_pos rfl]; exact .inr rfl
      · rw [if_neg hk]; exact hT k), hstep]
    by_cases h1 : k ∈ hs
    · rw [if_pos h1, if_pos (List.mem_cons_of_mem _ h1)]
    · rw [if_neg h1]
      by_cases h2 : k = h
      · rw [if_pos h2, if_pos (by rw [h2]; exact List.mem_cons_self), h2]
      · rw [if_neg h2, if_neg]
        intro h3
        rcases List.mem_cons.mp h3 with h3 | h3
        · exact h2 h3
        · exact h1 h3
theorem ledger_nodup {fs : List Fl} {cs : List Cl} {L : Nat} : ∀ (hs : List Str) (T : List Row), (keys T).Nodup → (keys (hs.foldl (lstep fs cs L) T)).Nodup
  | [], _, h => h
  | k :: hs, T, h => by
    refine ledger_nodup hs _ ?_
    unfold lstep
    split
    · exact h
    · exact nodup_aset h
theorem mem_homes {fs : List Fl} {L : Nat} {h : Str} : h ∈ fs.map (hmf L) ↔ ∃ i, i < fs.length ∧ hm fs L i = h := by
  constructor
  · intro hh
    obtain ⟨f, hf, rfl⟩ := List.mem_map.mp hh
    obtain ⟨i, hi, rfl⟩ := List.getElem_of_mem hf
    exact ⟨i, hi, by simp [hm, flAt, hi]⟩
  · rintro ⟨i, hi, rfl⟩
    exact List.mem_map.mpr ⟨fs[i], List.getElem_mem hi, by simp [hm, flAt, hi]⟩
theorem book_eq {fs : List Fl} {cs : List Cl} {L : Nat} {T : List Row} (h : Spec fs cs L T) (hT : TOk T) :
    T.length = (ledger fs cs L).length ∧ ∀ r ∈ T, ∃ m', aget (ledger fs cs L) r.1 = some (r.2.1, m') ∧ r.2.2.length = m'.length ∧ ∀ e ∈ r.2.2, aget m' e.1 = some e.2 := by
  have hg : ∀ k, aget (ledger fs cs L) k = if k ∈ fs.map (hmf L) then some (lval fs cs L k) else none := fun k => ledger_get _ [] fun _ => .inl rfl
  have hnd : (keys (ledger fs cs L)).Nodup := ledger_nodup _ [] List.nodup_nil
  refine ⟨?_, fun r hr => ?_⟩
  · rw [← List.length_map (f := (·.1)) (as := T), ← List.length_map (f := (·.1)) (as := ledger fs cs L)]
    refine len_eq_of_mem hT.nd hnd fun k => ?_
    rw [h.b, ← mem_homes, ← aget_isSome, hg]
    by_cases hk : k ∈ fs.map (hmf L) <;> simp only [hk, if_true, if_false, Option.isSome_some, Option.isSome_none, Bool.false_eq_true]
  · have hget := mem_of_get hT.nd hr
    have hin : r.1 ∈ fs.map (hmf L) := mem_homes.mpr ((h.b r.1).mp (List.mem_map_of_mem hr))
    have hfig : r.2.1 = vsum (lfig fs L r.1) := by
      have h1 := fsum_at (h := r.1) hT.nd
      rw [hget, h.a] at h1
      have h2 : vsum (lfig fs L r.1) = _ := vsum_filter (fun i => decide (hm fs L i = r.1)) (fun i => (flAt fs i).2) (List.range fs.length)
      rw [h2]
      exact h1.symm
    have hnl : (keys (lcs fs L (lhere fs cs L r.1))).Nodup := lcs_nodup _ [] List.nodup_nil
    have hlg : ∀ k, aget (lcs fs L (lhere fs cs L r.1)) k = if k ∈ (lhere fs cs L r.1).map (fun c => hm fs L c.1) then some (vsum (lat fs L (lhere fs cs L r.1) k)) else none := fun k => lcs_get _ []
    have hkeys : ∀ k, k ∈ keys r.2.2 ↔ k ∈ (lhere fs cs L r.1).map (fun c => hm fs L c.1) := fun k => by
      constructor
      · intro hk
        obtain ⟨c, hc, e1, e2⟩ := (h.d r.1 k).mp ⟨r, hr, rfl, hk⟩
        exact List.mem_map.mpr ⟨c, List.mem_filter.mpr ⟨hc, by simp [e1]⟩, e2⟩
      · intro hk
        obtain ⟨c, hc, e2⟩ := List.mem_map.mp hk
        obtain ⟨hc, e1⟩ := List.mem_filter.mp hc
        obtain ⟨r', hr', e3, hk'⟩ := (h.d r.1 k).mpr ⟨c, hc, of_decide_eq_true e1, e2⟩
        have := mem_of_get hT.nd hr'
        rw [e3, hget] at this
        rw [Option.some.inj this]
        exact hk'
    refine ⟨lcs fs L (lhere fs cs L r.1), ?_, ?_, fun e he => ?_⟩
    · rw [hg, if_pos hin, hfig]; rfl
    · rw [← List.length_map (f := (·.1)) (as := r.2.2), ← List.length_map (f := (·.1)) (as := lcs fs L (lhere fs cs L r.1))]
      refine len_eq_of_mem (hT.cs r hr) hnl fun k => ?_
      rw [hkeys, ← aget_isSome, hlg]
      by_cases hk : k ∈ (lhere fs cs L r.1).map (fun c => hm fs L c.1) <;> simp only [hk, if_true, if_false, Option.isSome_some, Option.isSome_none, Bool.false_eq_true]
    · rw [hlg, if_pos ((hkeys e.1).mp (List.mem_map_of_mem he))]
      congr 1
      have h1 := csum_at (h := r.1) (k := e.1) hT
      rw [hget, h.c] at h1
      have h2 : (aget r.2.2 e.1).getD v0 = e.2 := by rw [aget_of_mem (hT.cs r hr) he]; rfl
      have h1 : _ = (aget r.2.2 e.1).getD v0 := h1
      rw [h2] at h1
      rw [← h1]
      unfold lat lhere
      rw [List.filter_filter, vsum_filter]
      exact vsum_congr fun c _ => by rw [Bool.and_comm]

/-! the calls that stay in one folder -/
def stays (T : List Row) : List V4 := (T.filter fun r => (aget r.2.2 r.1).isSome).map fun r => (aget r.2.2 r.1).getD v0
def nears (fs : List Fl) (cs : List Cl) (L : Nat) : List V4 := ((cs.map (nrow fs)).filter fun p => decide ((p.1 : Int) ≥ (L : Int))).map (·.2)
theorem cp_take : ∀ (a b : List (List Nat)) (L : Nat), a ≠ b → (L ≤ (cp a b).length ↔ a.take L = b.take L)
  | [], b, L, h => by
    cases b with
    | nil => exact (h rfl).elim
    | cons y b => cases L <;> simp [cp]
  | x :: a, [], L, h => by cases L <;> simp [cp]
  | x :: a, y :: b, 0, h => by simp
  | x :: a, y :: b, L + 1, h => by
    unfold cp
    by_cases e : x = y
    · subst e
      rw [if_pos rfl, List.length_cons, Nat.add_le_add_iff_right, cp_take a b L (fun e => h (by rw [e])), List.take_succ_cons, List.take_succ_cons]
      simp
    · rw [if_neg e]
      simp [e]
theorem near_iff {fs : List Fl} (hf : ∀ f ∈ fs, FlOk f) {L : Nat} (hL : L ≤ 3) {c : Cl} (hc : ClOk fs.length c) : (L ≤ (nrow fs c).1) ↔ hm fs L c.2.1 = hm fs L c.1 := by
  obtain ⟨a1, a2, a3⟩ := flAt_ok hf hc.1
  obtain ⟨b1, b2, b3⟩ := flAt_ok hf hc.2
  unfold nrow hm hmf
  have hi : S (pl ((flAt fs c.2.1).1.take L)) = S (pl ((flAt fs c.1).1.take L)) ↔ (flAt fs c.1).1.take L = (flAt fs c.2.1).1.take L :=
    ⟨fun h => (pl_inj (vn_take b1 L) (vn_take a1 L) h).symm, fun h => by rw [h]⟩
  rw [hi]
  by_cases e : (flAt fs c.1).1 = (flAt fs c.2.1).1
  · simp [e, hL]
  · simp only [if_neg e]
    exact cp_take _ _ L e
theorem stays_eq {fs : List Fl} {cs : List Cl} (hf : ∀ f ∈ fs, FlOk f) (hc : ∀ c ∈ cs, ClOk fs.length c) {L : Nat} (hL : L ≤ 3) {T : List Row} (h : Spec fs cs L T) (hT : TOk T) :
    vsum (stays T) = vsum (nears fs cs L) ∧ (stays T = [] ↔ nears fs cs L = []) := by
  constructor
  · have h1 : vsum (stays T) = csum (fun a b => decide (b = a)) T := by
      unfold stays csum
      rw [vsum_filter]
      refine vsum_congr fun r hr => ?_
      rw [csum1_at (hT.cs r hr)]
      cases aget r.2.2 r.1 <;> simp
    rw [h1, h.c]
    unfold nears
    rw [vsum_filter, List.map_map]
    refine vsum_congr fun c hcm => ?_
    have hi := near_iff hf hL (hc c hcm)
    show (if decide (hm fs L c.1 = hm fs L c.2.1) = true then c.2.2 else v0) = if decide (((nrow fs c).1 : Int) ≥ (L : Int)) = true then (nrow fs c).2 else v0
    have : (decide (hm fs L c.1 = hm fs L c.2.1)) = decide (((nrow fs c).1 : Int) ≥ (L : Int)) := by
      rw [decide_eq_decide, eq_comm, ← hi]; omega
    rw [this]
    rfl
  · have h1 : stays T = [] ↔ ¬ ∃ c ∈ cs, hm fs L c.2.1 = hm fs L c.1 := by
      unfold stays
      rw [List.map_eq_nil_iff, List.filter_eq_nil_iff]
      constructor
      · rintro hn ⟨c, hcm, e⟩
        obtain ⟨r, hr, e1, e2⟩ := (h.d (hm fs L c.2.1) (hm fs L c.1)).mpr ⟨c, hcm, rfl, rfl⟩
        refine hn r hr (aget_isSome.mpr ?_)
        rw [e1, e]; exact e2
      · intro hn r hr hs
        obtain ⟨c, hcm, e1, e2⟩ := (h.d r.1 r.1).mp ⟨r, hr, rfl, aget_isSome.mp hs⟩
        exact hn ⟨c, hcm, e1.trans e2.symm⟩
    have h2 : nears fs cs L = [] ↔ ¬ ∃ c ∈ cs, hm fs L c.2.1 = hm fs L c.1 := by
      unfold nears
      rw [List.map_eq_nil_iff, List.filter_eq_nil_iff]
      constructor
      · rintro hn ⟨c, hcm, e⟩
        have := hn (nrow fs c) (List.mem_map_of_mem hcm)
        rw [decide_eq_true_iff] at this
        have h3 := (near_iff hf hL (hc c hcm)).mpr e
        omega
      · intro hn p hp hs
        obtain ⟨c, hcm, rfl⟩ := List.mem_map.mp hp
        rw [decide_eq_true_iff] at hs
        exact hn ⟨c, hcm, (near_iff hf hL (hc c hcm)).mp (by omega)⟩
    rw [h1, h2]
theorem count_fold (m : Cs) : m.foldl (fun i p => i + p.2.a) 0 = (vsum (m.map (·.2))).a := by
  have key : ∀ (m : Cs) (i : Int), m.foldl (fun i p => i + p.2.a) i = i + (vsum (m.map (·.2))).a := by
    intro m
    induction m with
    | nil => intro i; simp [vsum_nil, v0]
    | cons p m ih =>
      intro i
      rw [List.foldl_cons, ih, List.map_cons, vsum_cons]
      show _ = i + (p.2.a + _)
      omega
  rw [key]; omega
theorem sum_a {α : Type} (f : α → V4) (l : List α) : (l.map fun x => (f x).a).sum = (vsum (l.map f)).a := by
  induction l with
  | nil => rfl
  | cons x l ih => rw [List.map_cons, List.map_cons, List.sum_cons, vsum_cons, ih]; rfl
theorem counts_eq {fs : List Fl} {cs : List Cl} {L : Nat} {T : List Row} (h : Spec fs cs L T) : (T.map fun r => r.2.2.foldl (fun i p => i + p.2.a) 0).sum = (cs.map fun c => c.2.2.a).sum := by
  have h1 := h.c fun _ _ => true
  have h2 : (T.map fun r => r.2.2.foldl (fun i p => i + p.2.a) 0) = T.map fun r => (vsum (r.2.2.map (·.2))).a := List.map_congr_left fun r _ => count_fold _
  rw [h2, sum_a, sum_a]
  have h3 : csum (fun _ _ => true) T = vsum (T.map fun r => vsum (r.2.2.map (·.2))) := by
    unfold csum csum1
    simp
  rw [← h3, h1]
  simp
theorem spec_ok {fs : List Fl} {cs : List Cl} (hf : ∀ f ∈ fs, FlOk f) (hc : ∀ c ∈ cs, ClOk fs.length c) {L M : Nat} (hM : M ≤ L + 1) {rows : List Row} (h : Spec fs cs M rows) : ∀ r ∈ rows, RowOk (L + 1) r := by
  have hp : ∀ i, i < fs.length → Pk (L + 1) (hm fs M i) := fun i hi => by
    obtain ⟨a1, a2, a3⟩ := flAt_ok hf hi
    exact ⟨_, vn_take a1 M, by rw [List.length_take]; omega, Nat.le_trans (wt_take _ _) a3, rfl⟩
  intro r hr
  refine ⟨?_, fun e he => ?_, h.nd r hr⟩
  · obtain ⟨i, hi, e⟩ := (h.b r.1).mp (List.mem_map_of_mem hr)
    rw [← e]; exact hp i hi
  · obtain ⟨c, hcm, e1, e2⟩ := (h.d r.1 e.1).mp ⟨r, hr, rfl, List.mem_map_of_mem he⟩
    rw [← e2]; exact hp c.1 (hc c hcm).1
end Mine
namespace Mine
open PySem PySem.Calls PySem.W PyProof.Rows
variable {prog : Program} {w : World} {s₀ : Shared} {n : Nat} {ad : Str → Addr} {env : Env} {σ : Sto}

/-! the cells, the calls -/
def cellsOf (ns : List Int) : List Int := if ns.take 4 = [] then [337, 19, 41] else ns.take 4
theorem cells_len (ns : List Int) : (cellsOf ns).length ≤ 4 := by
  unfold cellsOf
  split
  · decide
  · rw [List.length_take]; omega
theorem dr1_ok {ns : List Int} {i : Nat} (hi : i < ns.length) (p : Int × Int) : ∀ c ∈ dr1 ns i p, ClOk ns.length c := by
  intro c hc
  unfold dr1 at hc
  split at hc
  · rw [List.mem_singleton] at hc
    subst hc
    have h0 : (0 : Int) < (ns.length : Int) := by omega
    have h1 := Int.fmod_nonneg_of_pos p.1 h0
    have h2 := Int.fmod_lt_of_pos p.1 h0
    exact ⟨by show (p.1.fmod (ns.length : Int)).toNat < ns.length; omega, hi⟩
  · cases hc
theorem mkCalls_ok (ns : List Int) : (∀ c ∈ mkCalls ns, ClOk ns.length c) ∧ (mkCalls ns).length ≤ 2 * ns.length := by
  have key : ∀ (l : List Nat) (acc : List Cl), (∀ i ∈ l, i < ns.length) → (∀ c ∈ acc, ClOk ns.length c) → (∀ c ∈ l.foldl (dr ns) acc, ClOk ns.length c) ∧ (l.foldl (dr ns) acc).length ≤ acc.length + 2 * l.length := by
    intro l
    induction l with
    | nil => intro acc _ h; exact ⟨h, by simp⟩
    | cons i l ih =>
      intro acc hl h
      have hi := hl i List.mem_cons_self
      have h1 : ∀ c ∈ dr ns acc i, ClOk ns.length c := by
        intro c hc
        unfold dr draws at hc
        simp only [List.foldl_cons, List.foldl_nil, List.mem_append] at hc
        rcases hc with (hc | hc) | hc
        · exact h c hc
        · exact dr1_ok hi _ c hc
        · exact dr1_ok hi _ c hc
      obtain ⟨h2, h3⟩ := ih (dr ns acc i) (fun j hj => hl j (List.mem_cons_of_mem _ hj)) h1
      have h4 := dr_len ns acc i
      refine ⟨h2, ?_⟩
      rw [List.foldl_cons, List.length_cons]
      omega
  have := key (List.range ns.length) [] (fun i hi => List.mem_range.mp hi) (fun _ h => nomatch h)
  refine ⟨this.1, ?_⟩
  have h2 := this.2
  rw [List.length_range] at h2
  unfold mkCalls
  simpa using h2

/-! equal rows -/
theorem cons_inv {hs : Str → Int} {Z : Fz} {vs : List Value} {d : D} {ds : List D} (h : IsAll hs Z vs (d :: ds)) : ∃ v r, vs = v :: r ∧ Is hs Z v d ∧ IsAll hs Z r ds := by cases h with | cons a b => exact ⟨_, _, rfl, a, b⟩
theorem five_inv {hs : Str → Int} {Z : Fz} {vs : List Value} {d1 d2 d3 d4 d5 : D} (h : IsAll hs Z vs [d1, d2, d3, d4, d5]) : ∃ v1 v2 v3 v4 v5, vs = [v1, v2, v3, v4, v5] ∧ Is hs Z v1 d1 ∧ Is hs Z v2 d2 ∧ Is hs Z v3 d3 ∧ Is hs Z v4 d4 ∧ Is hs Z v5 d5 := by
  obtain ⟨v1, _, rfl, a1, h⟩ := cons_inv h
  obtain ⟨v2, _, rfl, a2, h⟩ := cons_inv h
  obtain ⟨v3, _, rfl, a3, h⟩ := cons_inv h
  obtain ⟨v4, v5, rfl, a4, a5⟩ := h.two_inv
  exact ⟨_, _, _, _, _, rfl, a1, a2, a3, a4, a5⟩
theorem eqIn_row {b : Bool} {v : V4} {m m' : Cs} (hl : m.length = m'.length) (h : ∀ e ∈ m, aget m' e.1 = some e.2) (A : Around) (Z : Fz) (s : Shared) (v1 v2 : Value) (hu : A.units + 50 < cLine) (hZ : FX Z s.heap)
    (i1 : Is (hsOf prog w) Z v1 (rD b v m)) (i2 : Is (hsOf prog w) Z v2 (rD b v m')) : EqIn prog w A s v1 v2 := by
  obtain ⟨_, _, _, rfl, e1, z1, a1⟩ := i1.tup_inv
  ·
    obtain ⟨_, _, _, rfl, e2, z2, a2⟩ := i2.tup_inv
    ·
      refine eqIn_of_refs fun _ => rc_tup (hZ _ _ e1 (by intro q; cases q)) (hZ _ _ e2 (by intro q; cases q)) (by omega) (a1.length.trans a2.length.symm) ?_
      have hi : ∀ {i : Int} {x y : Value}, Is (hsOf prog w) Z x (.int i) → Is (hsOf prog w) Z y (.int i) → EqIn prog w A.in1 s x y := fun {i x y} hx hy =>
        eqIn_of_at (eqAt_smp hZ 1 (d := .int i) (by show A.units + 1 + 1 < cLine; omega) trivial hx hy)
      obtain ⟨x1, x2, x3, x4, x5, rfl, p1, p2, p3, p4, p5⟩ := five_inv a1
      obtain ⟨y1, y2, y3, y4, y5, rfl, q1, q2, q3, q4, q5⟩ := five_inv a2
      ·
          intro p hp
          simp only [List.zip_cons_cons, List.zip_nil_right, List.mem_cons, List.not_mem_nil, or_false] at hp
          rcases hp with rfl | rfl | rfl | rfl | rfl
          · exact hi p1 q1
          · exact hi p2 q2
          · exact hi p3 q3
          · exact hi p4 q4
          · refine eqIn_dct 1 hZ (by show A.units + 1 + 1 + 1 < cLine; omega) p5 q5 (by rw [enc_len, enc_len]; exact hl) fun e he => ?_
            obtain ⟨x, hx, rfl⟩ := List.mem_map.mp he
            exact ⟨by rw [dget_enc, h x hx]; rfl, smp_cD b x.2⟩
theorem op_ne_tot {b : Bool} {l : List V4} : Op2 prog w s₀ n (compareOp .NotEq) (tot b l) (tot b l) (.bool false) := by
  have hint : ∀ i : Int, Op2 prog w s₀ n (compareOp .NotEq) (.int i) (.int i) (.bool false) := fun i => by
    have := op_ne_int (prog := prog) (w := w) (s₀ := s₀) (n := n) (a := i) (b := i)
    rwa [bne_self_eq_false] at this
  unfold tot
  split
  · exact hint 0
  · cases b with
    | true => exact hint _
    | false =>
      refine op_ne_tup 1 (by decide) fun d hd => ?_
      obtain ⟨i, _, rfl⟩ := List.mem_map.mp hd
      trivial
theorem tot_eq {b : Bool} {l l' : List V4} (h1 : vsum l = vsum l') (h2 : l = [] ↔ l' = []) : tot b l = tot b l' := by
  unfold tot
  by_cases e : l = []
  · rw [if_pos e, if_pos (h2.mp e)]
  · rw [if_neg e, if_neg (fun q => e (h2.mpr q)), h1]
end Mine
namespace Mine
open PySem PySem.Calls PySem.W PyProof.Rows
variable {prog : Program} {w : World} {s₀ : Shared} {n : Nat} {ad : Str → Addr} {env : Env} {σ : Sto}

def LInv (fs : List Fl) (cs : List Cl) (rows : List Row) (rest : List Nat) : Prop :=
  rows.length ≤ 100 ∧ rw' rows ≤ 10000 ∧ (rest = [] ∨ ∃ M, Spec fs cs M rows ∧ ((M = 3 ∧ (rest = [3, 2, 1, 0] ∨ rest = [2, 1, 0])) ∨ (M = 2 ∧ rest = [1, 0]) ∨ (M = 1 ∧ rest = [0])))
theorem linv_step {fs : List Fl} {cs : List Cl} (hf : ∀ f ∈ fs, FlOk f) (hc : ∀ c ∈ cs, ClOk fs.length c) {rows : List Row} {L : Nat} {rest : List Nat} (h : LInv fs cs rows (L :: rest)) :
    L ≤ 3 ∧ (∀ r ∈ rows, RowOk (L + 1) r) ∧ Spec fs cs L (gather L rows) ∧ LInv fs cs (gather L rows) rest := by
  obtain ⟨h1, h2, h3⟩ := h
  rcases h3 with h3 | ⟨M, hS, h3⟩
  · cases h3
  · have key : L ≤ 3 ∧ L ≤ M ∧ M ≤ L + 1 ∧ (rest = [] ∨ ((L = 3 ∧ rest = [2, 1, 0]) ∨ (L = 2 ∧ rest = [1, 0]) ∨ (L = 1 ∧ rest = [0]))) := by
      rcases h3 with ⟨rfl, h3 | h3⟩ | ⟨rfl, h3⟩ | ⟨rfl, h3⟩ <;> cases h3
      · exact ⟨by omega, by omega, by omega, .inr (.inl ⟨rfl, rfl⟩)⟩
      · exact ⟨by omega, by omega, by omega, .inr (.inr (.inl ⟨rfl, rfl⟩))⟩
      · exact ⟨by omega, by omega, by omega, .inr (.inr (.inr ⟨rfl, rfl⟩))⟩
      · exact ⟨by omega, by omega, by omega, .inl rfl⟩
    obtain ⟨k1, k2, k3, k4⟩ := key
    have hG := spec_gather hf hc k2 hS
    obtain ⟨_, _, _, _, _, g6, g7⟩ := gather_spec L rows
    refine ⟨k1, spec_ok hf hc k3 hS, hG, by omega, by omega, ?_⟩
    rcases k4 with k4 | ⟨rfl, k4⟩ | ⟨rfl, k4⟩ | ⟨rfl, k4⟩
    · exact .inl k4
    · exact .inr ⟨3, hG, .inl ⟨rfl, .inr k4⟩⟩
    · exact .inr ⟨2, hG, .inr (.inl ⟨rfl, k4⟩)⟩
    · exact .inr ⟨1, hG, .inr (.inr ⟨rfl, k4⟩)⟩
set_option maxHeartbeats 8000000 in
theorem c_law (G : Gd s₀ ad) {ns : List Int} (hz : ns.length ≤ 100) : CallT prog w s₀ (n + 5) (.ref (ad r22.name)) [.lst (ns.map .int)] (.bool true) := by
  refine call_def [(Str.ofString "script", .val (.lst (ns.map .int)))] (f22 G) (defOk1 (by decide) rfl fun _ _ _ _ => by with_unfolding_all rfl) rfl fun L' code O => ?_
  conv => arg 7; arg 1; whnf
  have hpick : lpick (ns.map D.int) none (some 4) = (ns.take 4).map .int := by rw [List.map_take]; exact lpick_take (ns.map D.int) 4
  have hsl : Op2 prog w s₀ (n + 4) (subscriptTail (.Name (Str.ofString "script") ⟨250, 12, 250, 18⟩) (.Slice none (some (.Constant (.int 4) 0 ⟨250, 20, 250, 21⟩)) none ⟨250, 19, 250, 21⟩)) (.lst (ns.map .int)) (.slc none (some 4)) (.lst ((ns.take 4).map .int)) := hpick ▸ op_slice_lst
  refine ex_cons (ex_assign (d := .lst ((cellsOf ns).map .int)) ?_ (asg_name O)) ?_
  · by_cases h0 : ns.take 4 = []
    · have hc : cellsOf ns = [337, 19, 41] := if_pos h0
      rw [hc]
      exact ev_or2_right (ev_sub (nm O) (ev_slice (lo := none) (hi := some 4) trivial ev_int) hsl) (tru_lst (by rw [h0]; rfl)) (ev_list (ds := [.int 337, .int 19, .int 41]) (evl_cons ev_int (evl_cons ev_int (evl_cons ev_int evl_nil))) (by show 3 ≤ sizeLine; decide))
    · have hc : cellsOf ns = ns.take 4 := if_neg h0
      rw [hc]
      refine ev_or2_left (ev_sub (nm O) (ev_slice (lo := none) (hi := some 4) trivial ev_int) hsl) (tru_lst ?_)
      rw [List.length_map]
      cases hq : ns.take 4 with
      | nil => exact (h0 hq).elim
      | cons => rfl
  have hcl := cells_len ns
  have hfs : ∀ f ∈ (cellsOf ns).map mkFl, FlOk f := fun f hf => by
    obtain ⟨x, _, rfl⟩ := List.mem_map.mp hf
    exact mkFl_ok x
  have hfl : ((cellsOf ns).map mkFl).length = (cellsOf ns).length := List.length_map ..
  obtain ⟨hcs0, hcz⟩ := mkCalls_ok (cellsOf ns)
  have hcs : ∀ c ∈ mkCalls (cellsOf ns), ClOk ((cellsOf ns).map mkFl).length c := by rw [hfl]; exact hcs0
  refine ex_cons (ex_assign_comp (rs := ((cellsOf ns).map mkFl).map fD) [] O (nm O) src_lst .nil (fun cl C => ?_) (by rw [List.length_map, List.length_map, sizeLine_eq]; omega)) ?_
  · rw [List.map_map]
    exact compT_map D.int _ (cellsOf ns) fun x _ => ev_call_fn (gl (ocomp O) (g14 G)) (evl_cons (nm (ocomp O)) evl_nil) (f14 G).is (c_drawn G x)
  refine ex_cons (ex_assign (ev_call_fn (gl O (g15 G)) (evl_cons (nm O) (evl_cons (ev_compare (ev_binop (ev_call_bi (bbi O G) (evl_cons (nm O) evl_nil) ct_sum) ev_int (op_mod_int (by decide))) ev_int op_eq_int) evl_nil)) (f15 G).is (c_calls G (ns.sum.fmod 2 == 0) (by omega))) (asg_name O)) ?_
  generalize hb : (ns.sum.fmod 2 == 0) = b
  generalize hcsd : mkCalls (cellsOf ns) = cs at *
  generalize hfsd : (cellsOf ns).map mkFl = fs at *
  generalize cellsOf ns = cells at *
  have hcz' : cs.length ≤ 8 := by omega
  have hfz : fs.length ≤ 4 := by omega
  have hspec : Spec fs cs 3 (mkRows fs cs) := spec_rows hfs hcs
  obtain ⟨hr1, hr2⟩ := rows_small fs cs
  have hr3 : fs.length * cs.length ≤ 4 * 8 := Nat.mul_le_mul hfz hcz'
  refine ex_cons (ex_assign (ev_call_fn (gl O (g21 G)) (evl_cons (nm O) (evl_cons (nm O) evl_nil)) (f21 G).is (c_near G b hfs hcs (by omega))) (asg_name O)) ?_
  refine ex_cons (ex_assign (ev_call_fn (gl O (g16 G)) (evl_cons (nm O) (evl_cons (nm O) evl_nil)) (f16 G).is (c_entries G b (by omega) hcs (by omega))) (asg_name O)) ?_
  let st : List Row → Sto := fun rows => [(Str.ofString "script", .val (.lst (ns.map .int))), (Str.ofString "found", .val (.lst (fs.map fD))), (Str.ofString "made", .val (.lst (cs.map (clD b)))), (Str.ofString "close", .val (.lst ((cs.map (nrow fs)).map (nrD b)))), (Str.ofString "rows", .val (.lst (rows.map (rwD b))))]
  refine ex_weak (SubL.all (τ := st (mkRows fs cs)) (.cons rfl (.cons rfl (.cons rfl (.cons rfl (.cons rfl .nil)))))) ?_
  refine ex_cons (ex_for_fold st (fun rows (L : Nat) => gather L rows) (fun (L : Nat) => D.int (L : Int)) (LInv fs cs) [3, 2, 1, 0] (mkRows fs cs) (ev_list (ds := [.int 3, .int 2, .int 1, .int 0]) (evl_cons ev_int (evl_cons ev_int (evl_cons ev_int (evl_cons ev_int evl_nil)))) (by show 4 ≤ sizeLine; decide)) src_lst rfl rfl
    ⟨by omega, by omega, .inr ⟨3, hspec, .inl ⟨rfl, .inl rfl⟩⟩⟩ fun rows L rest hI => ?_) ?_
  · obtain ⟨hL3, hrow, hS, hI'⟩ := linv_step hfs hcs hI
    obtain ⟨hz1, hz2, _⟩ := hI
    refine ⟨hI', _, asg_name O, st (gather L rows), .inl ?_, fun _ _ h => h⟩
    have hT := (gather_spec L rows).1
    have hTl := (gather_spec L rows).2.2.2.2.2.2
    refine ex_cons (ex_assign (ev_call_fn (gl O (g18 G)) (evl_cons (nm O) (evl_cons (nm O) evl_nil)) (f18 G).is (c_gathered G b hrow hz1 hz2)) (asg_name O)) ?_
    generalize gather L rows = T at *
    obtain ⟨hbl, hbe⟩ := book_eq hS hT
    have hget : ∀ r ∈ T, dget (enc (fun p : V4 × Cs => rD b p.1 p.2) T) r.1 = some (rD b r.2.1 r.2.2) := fun r hr => by rw [dget_enc, mem_of_get hT.nd hr]; rfl
    refine ex_cons (ex_if_false (evB_compare (nm O) (ev_call_fn (gl O (g20 G)) (evl_cons (nm O) (evl_cons (nm O) (evl_cons (nm O) evl_nil))) (f20 G).is (c_ledger G b hfs (by omega) hcs (by omega))) (op_ne_dct (by rw [enc_len, enc_len]; exact hbl) fun p hp => ?_)) ex_nil) ?_
    · obtain ⟨r, hr, rfl⟩ := List.mem_map.mp hp
      obtain ⟨m', e1, e2, e3⟩ := hbe r hr
      exact ⟨rD b r.2.1 m', by rw [dget_enc, e1]; rfl, fun A Z s v v' hu hZ i i' => eqIn_row e2 e3 A Z s v v' hu hZ i i'⟩
    obtain ⟨hs1, hs2⟩ := stays_eq hfs hcs hL3 hS hT
    have hsl : (stays T).length ≤ T.length := by unfold stays; rw [List.length_map]; exact List.length_filter_le _ _
    have hnl : (nears fs cs L).length ≤ cs.length := by
      unfold nears
      rw [List.length_map]
      exact Nat.le_trans (List.length_filter_le _ _) (by rw [List.length_map]; exact Nat.le_refl _)
    refine ex_cons (ex_assign_comp (rs := (stays T).map (cD b)) [(Str.ofString "book", .val (tD b T))] O (nm O) src_dct (.cons rfl .nil) (fun cl C => ?_) (by rw [List.length_map, sizeLine_eq]; omega)) ?_
    · refine compT_of' (fun r : Row => D.str r.1) (fun r => (aget r.2.2 r.1).isSome) (fun r => cD b ((aget r.2.2 r.1).getD v0)) T (by unfold enc; rw [List.map_map]; rfl) (by unfold stays; rw [List.map_map]; rfl) (fun r hr => tests_one (evB_compare (nm (ocomp O)) (ev_sub (ev_sub (nm (ocomp O)) (nm (ocomp O)) (op_item_dct (hget r hr))) ev_int (op_item_tup (d := kD b r.2.2) (by decide) (by rfl))) (op_in_dct (by rw [dget_enc, Option.isSome_map])))) fun r hr hk => ?_
      have hk' : dget (enc (cD b) r.2.2) r.1 = some (cD b ((aget r.2.2 r.1).getD v0)) := by
        rw [dget_enc]
        cases hq : aget r.2.2 r.1 with
        | none => rw [hq] at hk; cases hk
        | some u => rfl
      exact ev_sub (ev_sub (ev_sub (nm (ocomp O)) (nm (ocomp O)) (op_item_dct (hget r hr))) ev_int (op_item_tup (d := kD b r.2.2) (by decide) (by rfl))) (nm (ocomp O)) (op_item_dct hk')
    have htot : tot b (nears fs cs L) = tot b (stays T) := (tot_eq hs1 hs2).symm
    have hcall := c_total (prog := prog) (w := w) (n := n + 3) G b (cs := nears fs cs L) (by omega)
    rw [htot] at hcall
    refine ex_cons (ex_if_false (evB_compare (ev_call_fn (gl O (g19 G)) (evl_cons (nm O) evl_nil) (f19 G).is (c_total G b (by omega))) (ev_call_fn (gl O (g19 G)) (evl_cons (ev_listcomp (rs := (nears fs cs L).map (cD b)) [(Str.ofString "depth", .val (.int (L : Int)))] O (nm O) src_lst (.cons rfl .nil) (fun cl C => ?_) (by rw [List.length_map, sizeLine_eq]; omega)) evl_nil) (f19 G).is hcall) op_ne_tot) ex_nil) ?_
    · exact compT_of' (nrD b) (fun p => decide ((p.1 : Int) ≥ (L : Int))) (fun p => cD b p.2) (cs.map (nrow fs)) rfl (by unfold nears; rw [List.map_map]; rfl) (fun p hp => tests_one (evB_compare (ev_sub (nm (ocomp O)) ev_int (op_item_tup (d := .int (p.1 : Int)) (by decide) (by rfl))) (nm (ocomp O)) op_ge_int))
        fun p hp _ => ev_sub (nm (ocomp O)) ev_int (op_item_tup (d := cD b p.2) (by decide) (by rfl))
    have e1 : ((enc (fun p : V4 × Cs => rD b p.1 p.2) T).map fun kd => D.str kd.1) = T.map fun r => .str r.1 := by unfold enc; rw [List.map_map]; rfl
    have hlast : Ex prog w s₀ (n + 4) (benv r22.scope r22.name L' (ad r22.name) code) (st T) (execs [] (benv r22.scope r22.name L' (ad r22.name) code)) (.next (st T)) := ex_nil
    have hitems : CallT prog w s₀ (n + 4) (.type "list") [.itm (enc (fun p : V4 × Cs => rD b p.1 p.2) T)] (.lst (T.map (rwD b))) := by
      have := ct_list_items (prog := prog) (w := w) (s₀ := s₀) (n := n + 4) (kds := enc (fun p : V4 × Cs => rD b p.1 p.2) T)
      rw [items_enc] at this
      exact this
    refine ex_cons (ex_if_false ?_ ex_nil) (ex_cons (ex_assign (ev_call_ty (bty O G) (evl_cons (ev_meth mk_items (nm O) (by rfl) evl_nil ct_items) evl_nil) hitems) (asg_name O)) (ex_weak (SubL.all (.cons rfl (.cons rfl (.cons rfl (.cons rfl (.cons rfl .nil)))))) hlast))
    cases b with
    | false => exact evB_bool (evB_cons_stop (b := false) (evB_compare (ev_binop (ev_call_bi (bbi O G) (evl_cons (nm O) evl_nil) ct_sum) ev_int (op_mod_int (by decide))) ev_int (hb ▸ op_eq_int)) rfl)
    | true =>
      have e2 : ((T.map fun r => r.2.2.foldl (fun i p => i + p.2.a) 0).map D.int) = T.map fun r => D.int (r.2.2.foldl (fun i p => i + p.2.a) 0) := by rw [List.map_map]; rfl
      have e3 : ((cs.map fun c => c.2.2.a).map D.int) = cs.map fun c => D.int c.2.2.a := by rw [List.map_map]; rfl
      have hne : Op2 prog w s₀ (n + 4) (compareOp .NotEq) (.int (T.map fun r => r.2.2.foldl (fun i p => i + p.2.a) 0).sum) (.int (cs.map fun c => c.2.2.a).sum) (.bool false) := by
        have := op_ne_int (prog := prog) (w := w) (s₀ := s₀) (n := n + 4) (a := (T.map fun r => r.2.2.foldl (fun i p => i + p.2.a) 0).sum) (b := (cs.map fun c => c.2.2.a).sum)
        rw [counts_eq hS, bne_self_eq_false] at this
        rw [counts_eq hS]
        exact this
      refine evB_bool (evB_cons_go (b := true) (evB_compare (ev_binop (ev_call_bi (bbi O G) (evl_cons (nm O) evl_nil) ct_sum) ev_int (op_mod_int (by decide))) ev_int (hb ▸ op_eq_int)) rfl (evB_cons_stop (b := false) (evB_compare
        (ev_call_bi (bbi O G) (evl_cons (ev_listcomp (rs := (T.map fun r => r.2.2.foldl (fun i p => i + p.2.a) 0).map .int) [(Str.ofString "book", .val (tD true T))] O (nm O) src_dct (.cons rfl .nil) (fun cl C => ?_) (by rw [List.length_map, List.length_map, sizeLine_eq]; omega)) evl_nil) ct_sum)
        (ev_call_bi (bbi O G) (evl_cons (ev_listcomp (rs := (cs.map fun c => c.2.2.a).map .int) [] O (nm O) src_lst .nil (fun cl C => ?_) (by rw [List.length_map, List.length_map, sizeLine_eq]; omega)) evl_nil) ct_sum) hne) rfl))
      · rw [e1, e2]
        exact compT_map _ _ T fun r hr => ev_call_fn (gl (ocomp O) (g3 G)) (evl_cons (ev_sub (ev_sub (nm (ocomp O)) (nm (ocomp O)) (op_item_dct (hget r hr))) ev_int (op_item_tup (d := kD true r.2.2) (by decide) (by rfl))) evl_nil) (f3 G).is (c_count G r.2.2)
      · rw [e3]
        exact compT_map _ _ cs fun c hc => ev_sub (nm (ocomp O)) ev_int (op_item_tup (d := .int c.2.2.a) (by decide) (by rfl))
  · exact ex_stop (ex_return ev_bool)
end Mine
namespace Mine
open PySem PySem.Calls PySem.W PyProof.Rows

/-! the ground, from the top -/
def adOf (mg : Str → Option Value) : Str → Addr := fun x => match mg x with | some (.ref a) => a | _ => 0
theorem adOf_eq {mg : Str → Option Value} {x : Str} {a : Addr} (h : mg x = some (.ref a)) : adOf mg x = a := by unfold adOf; rw [h]
abbrev bnames : List (Str × Value) := [(Str.ofString "isinstance", Value.builtin "isinstance"), (Str.ofString "tuple", .type "tuple"), (Str.ofString "zip", .type "zip"), (Str.ofString "type", .type "type"), (Str.ofString "issubclass", .builtin "issubclass"), (Str.ofString "str", .type "str"),
    (Str.ofString "bytes", .type "bytes"), (Str.ofString "len", .builtin "len"), (Str.ofString "map", .type "map"), (Str.ofString "min", .builtin "min"), (Str.ofString "max", .builtin "max"), (Str.ofString "enumerate", .type "enumerate"), (Str.ofString "abs", .builtin "abs"),
    (Str.ofString "chr", .builtin "chr"), (Str.ofString "range", .type "range"), (Str.ofString "list", .type "list"), (Str.ofString "sum", .builtin "sum"), (Str.ofString "int", .type "int")]
theorem bn_boot : ∀ b ∈ bnames, bootBuiltins b.1 = some b.2 ∧ b.1 ≠ "__name__" := by
  intro b hb
  simp only [bnames, List.mem_cons, List.not_mem_nil, or_false] at hb
  rcases hb with rfl | rfl | rfl | rfl | rfl | rfl | rfl | rfl | rfl | rfl | rfl | rfl | rfl | rfl | rfl | rfl | rfl | rfl <;> exact ⟨by rfl, by decide⟩
def freeOk (p : Program) (loose : List Str) : Bool := bnames.all fun b => !(startupNames ++ loose ++ (recsOf p).map (·.name) ++ (litsOf p).map (·.1) ++ (clssOf p loose).map (·.name)).contains b.1
theorem gd_of {p : Program} {loose : List Str} {mean : ExcName → Option Value} {mg mb : Str → Option Value} {s : Shared} (T : Top p loose mean mg mb s.heap) (hp : recsOf p = recsOf theP) (hf : freeOk p loose = true) : Gd s (adOf mg) where
  fn := fun d hd => by
    obtain ⟨a, o, pm, code, doc, h1, h2, h3, h4⟩ := T.fn d (hp ▸ hd)
    rw [adOf_eq h1]
    exact ⟨⟨mg, T.g, h1⟩, ⟨o, pm, code, doc, h2, h3, h4⟩⟩
  bl := fun x v hx => by
    have hm : (x, v) ∈ bnames := mem_of_lookup hx
    obtain ⟨b1, b2⟩ := bn_boot _ hm
    have hc := List.all_eq_true.mp hf _ hm
    have hc : x ∉ startupNames ++ loose ++ (recsOf p).map (·.name) ++ (litsOf p).map (·.1) ++ (clssOf p loose).map (·.name) := by
      intro hin
      have := List.contains_iff_mem.mpr hin
      rw [this] at hc
      cases hc
    simp only [List.mem_append, not_or] at hc
    exact ⟨mg, mb, T.g, T.b, T.free x hc.1.1.1.1 hc.1.1.1.2 hc.1.1.2 hc.1.2 hc.2, (T.builtins x b2).trans b1⟩
  code := fun d hd o fd ho hfd => by
    obtain ⟨a, o', fd', c, P, h1, h2, h3, h4, h5, h6⟩ := T.tab d (hp ▸ hd)
    rw [adOf_eq h1, h2] at ho
    cases ho
    rw [h3] at hfd
    cases hfd
    exact ⟨c, P, h4, h5, h6⟩
  bm := let ⟨bm, ob, M⟩ := bmod_of_top T; ⟨mg, bm, ob, M⟩

def R0 : Fz := fun _ => none
theorem wd0 {s : Shared} (hn : s.heap.NoLimit) (hg : s.gens = #[]) : Wd s (fun a => s.heap.get? a) R0 s :=
  ⟨⟨hn, fun _ _ e => e⟩, fun _ _ e => .inl e, fun _ _ e => (nomatch e), fun _ _ e => (nomatch e), rfl, AllBare.of_eq hg⟩
theorem oldK_of {s s' : Shared} {Z R : Fz} (W : Wd s Z R s') : OldK s.heap s'.heap := by
  refine ⟨fun b o e => ?_, fun b o e => ?_⟩
  · rcases W.cur b o (W.base.2 b o e) with h | ⟨t, e1, more, h2, h3⟩
    · exact .inl h
    · subst e1
      exact .inr (.inl ⟨t, rfl, #[], more, rfl, by rw [Array.empty_append]; exact h2⟩)
  · rcases W.cur b o (W.base.2 b o e) with h | ⟨t, e1, more, h2, h3⟩
    · exact ⟨_, h⟩
    · exact ⟨_, h2⟩
theorem ints_is {hs : Str → Int} {Z : Fz} {vs : List Value} {ns : List Int} (h : IntsAre vs ns) : IsAll hs Z vs (ns.map .int) := by
  induction h with
  | nil => exact .nil
  | cons n t _ ih => exact .cons (.int n t) ih
theorem ints_len {vs : List Value} {ns : List Int} (h : IntsAre vs ns) : vs.length = ns.length := by
  induction h with
  | nil => rfl
  | cons n t _ ih => rw [List.length_cons, List.length_cons, ih]
theorem lst_of {P : Params} {h : Heap} {a : Addr} {xs : List PyData} {vs : List Value} (w1 : Well P h (.ref a) (ofPy (.list xs))) (hL : h.IsList a vs.toArray) : h.get? a = some (lstO vs 0) := by
  obtain ⟨o, e, hc, m, hd⟩ := hL
  have he : ∃ ys, ofPy (.list xs) = WData.list ys := ⟨_, rfl⟩
  obtain ⟨ys, he⟩ := he
  rw [he] at w1
  cases w1 with
  | list hg _ =>
    rw [hg] at e
    cases e
    cases hd
    exact hg
theorem callerOk : Ok 5 callerA := ⟨by rfl, by decide, by decide⟩
theorem law_call {prog : Program} {w : World} {s : Shared} {mg : Str → Option Value} {fa a : Addr} {vs : List Value} {ns : List Int} {n : Nat} (G : Gd s (adOf mg)) (hmg : mg r22.name = some (.ref fa)) (hn : s.heap.NoLimit) (hg : s.gens = #[]) (hgl : s.heap.get? a = some (lstO vs n))
    (hI : IntsAre vs ns) (hz : ns.length ≤ 100) : wpAny (model prog w) callerA (call (.ref fa) [.ref a] []) (fun v s' => v = .bool true ∧ OldK s.heap s'.heap ∧ s'.os = s.os ∧ AllBare s'.gens) (fun _ _ => False) s := by
  have hil := ints_len hI
  have h := c_law (prog := prog) (w := w) (n := 0) G hz callerA _ R0 s [.ref a] callerOk (wd0 hn hg) (.cons (.lst hgl (by rw [hil, sizeLine_eq]; omega) (ints_is hI)) .nil)
  rw [adOf_eq hmg] at h
  refine wpAny_mono h ?_ fun _ _ x => x
  rintro v s' ⟨Z', l, W', i⟩
  cases i
  exact ⟨rfl, oldK_of W', W'.os, W'.bare⟩
theorem post_ok (x : WData) : (OpenRow.toRowW (OpenLaw.row PySem.Challenge.rw_ik0005_01)).claim.post [x] (WData.bool true) [x] = true := by with_unfolding_all rfl
end Mine
open PySem PySem.W PyProof.Rows
set_option maxRecDepth 100000 in
set_option maxHeartbeats 8000000 in
theorem PySem.Challenge.cw_ik0005_01_holds : PySem.Challenge.rw_ik0005_01.Holds := by
  w_on
  refine holds_law Mine.said fun said => ?_
  refine holds_open (q := Mine.vw) (loose := []) (Xt := fun s => xlAt Mine.vw [] s && recOk (RowW.records Mine.rwOf) s) (XP := XL Mine.vw []) (Yf := Hook.obs Hook.none) (Ya := Hook.val Hook.none) (YP := Hook.says Hook.none) (N := 2750) Mine.left
    (Hook.of Hook.none) (Hook.keeps Hook.none) (fun s e => xl_of s (Bool.and_eq_true_iff.mp e).1) XL.keeps (by rfl) (by rfl) (by rfl) (fun s e => recFacts_of (Bool.and_eq_true_iff.mp e).2) (by rfl) said (by decide +kernel) ⟨rfl, rfl, rfl, rfl, rfl, by decide +kernel⟩ ?hw ?hc
  case hw => w_witness2
  case hc =>
    intro w s₀ s₁ mg mb G Y fa o pm cd doc dV kV ho hd hcd hD hmg hg args vals as hpre hlay hrd hwl hlo
    refine Ground.open G ?_
    intro T B D TE TW
    have GD := Mine.gd_of T (by rfl) (by decide +kernel)
    wrow_args hpre hlay hrd hwl hlo
    rename_i hL _ w1 _ hI _ hlen _
    refine wpAny_mono (Mine.law_call GD hmg (Top.nolimit T) hg (Mine.lst_of w1 hL) hI (by omega)) ?_ (fun _ _ x => x.elim)
    rintro v s' ⟨rfl, h1, h2, h3⟩
    exact ⟨.inl ⟨_, .bool true, [], rfl, fun _ => rfl, .bool true, Mine.post_ok _, fun _ => ⟨List.nodup_nil, fun _ h => nomatch h⟩⟩, h1, h2, h3⟩
