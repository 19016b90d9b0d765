import PyProof.Rows.All
import Wide.All
import OpenK.AllK
import Wide.FinOn
import KE.KDictList
import KE.KEqSeq
import Lean
import PySem.Challenge.RW_dz0116_01
open PySem PySem.W PyProof.Rows
set_option Elab.async false
set_option maxRecDepth 100000
set_option linter.unusedSimpArgs false
set_option linter.unusedVariables false
namespace Mine
open PySem.SeqAt PySem.MeetsSeq
open AutoSeq1 (wpAny_loadPart')

/-- the objects that the law makes -/
abbrev tupO (vs : List Value) : Obj := { cls := .type "tuple", data := .seq vs.toArray }
abbrev lstO (vs : List Value) (n : Nat) : Obj := { cls := .type "list", data := .seq vs.toArray n }
abbrev kS : Str := Str.ofString "k"
abbrev dctO (hs : Int) (t : Tok) (v : Value) (n : Nat) : Obj := { cls := .type "dict", data := .dict #[⟨hs, .str kS t, v⟩] n }

/-- v is the law's thing of number k -/
inductive TAt (h : Heap) : Value → Nat → Prop
  | i0 (t : Tok) : TAt h (.int 0 t) 0
  | f : TAt h (.bool false) 1
  | i1 (t : Tok) : TAt h (.int 1 t) 2
  | t : TAt h (.bool true) 3
  | i2 (t : Tok) : TAt h (.int 2 t) 4
  | sa (t : Tok) : TAt h (.str (Str.ofString "a") t) 5
  | se (t : Tok) : TAt h (.str (Str.ofString "") t) 6
  | n : TAt h .none 7
  | tu1 {a : Addr} {t : Tok} : h.get? a = some (tupO [.int 1 t]) → TAt h (.ref a) 8
  | tuT {a : Addr} : h.get? a = some (tupO [.bool true]) → TAt h (.ref a) 9
  | l1 {a : Addr} {t : Tok} {n : Nat} : h.get? a = some (lstO [.int 1 t] n) → TAt h (.ref a) 10
  | lT {a : Addr} {n : Nat} : h.get? a = some (lstO [.bool true] n) → TAt h (.ref a) 11
  | d1 {a : Addr} {hs : Int} {t u : Tok} {n : Nat} : h.get? a = some (dctO hs t (.int 1 u) n) → (a == sysModules) = false → TAt h (.ref a) 12
  | dT {a : Addr} {hs : Int} {t : Tok} {n : Nat} : h.get? a = some (dctO hs t (.bool true) n) → (a == sysModules) = false → TAt h (.ref a) 13
  | tl {a b : Addr} {n : Nat} : h.get? a = some (tupO [.ref b]) → h.get? b = some (lstO [] n) → TAt h (.ref a) 14
  | le {a : Addr} {n : Nat} : h.get? a = some (lstO [] n) → TAt h (.ref a) 15

abbrev Sub (h h' : Heap) : Prop := ∀ b o, h.get? b = some o → h'.get? b = some o

theorem TAt.mono {h h' : Heap} {v : Value} {k : Nat} (x : TAt h v k) (hs : Sub h h') : TAt h' v k := by
  cases x with
  | i0 t => exact .i0 t
  | f => exact .f
  | i1 t => exact .i1 t
  | t => exact .t
  | i2 t => exact .i2 t
  | sa t => exact .sa t
  | se t => exact .se t
  | n => exact .n
  | tu1 e => exact .tu1 (hs _ _ e)
  | tuT e => exact .tuT (hs _ _ e)
  | l1 e => exact .l1 (hs _ _ e)
  | lT e => exact .lT (hs _ _ e)
  | d1 e d => exact .d1 (hs _ _ e) d
  | dT e d => exact .dT (hs _ _ e) d
  | tl e d => exact .tl (hs _ _ e) (hs _ _ d)
  | le e => exact .le (hs _ _ e)

theorem TAt.lt {h : Heap} {v : Value} {k : Nat} (x : TAt h v k) : k < 16 := by cases x <;> decide

def kindT : Nat → Nat
  | 0 => 0 | 1 => 0 | 2 => 1 | 3 => 1 | 4 => 2 | 5 => 3 | 6 => 4 | 7 => 5 | 8 => 6 | 9 => 6 | 10 => 7 | 11 => 7 | 12 => 8 | 13 => 8 | 14 => 9 | 15 => 10 | _ => 0

def dataT : Nat → PyData
  | 0 => .int 0 | 1 => .bool false | 2 => .int 1 | 3 => .bool true | 4 => .int 2 | 5 => .str (Str.ofString "a") | 6 => .str (Str.ofString "") | 7 => .none
  | 8 => .tuple [.int 1] | 9 => .tuple [.bool true] | 10 => .list [.int 1] | 11 => .list [.bool true] | 14 => .tuple [.list []] | 15 => .list [] | _ => .dict []

def isD (k : Nat) : Bool := k == 12 || k == 13

theorem TAt.reads {h : Heap} {v : Value} {k : Nat} (x : TAt h v k) (hk : isD k = false) : ∃ as, Reads h v (dataT k) as := by
  cases x with
  | i0 t => exact ⟨_, .int _ _⟩
  | f => exact ⟨_, .bool _⟩
  | i1 t => exact ⟨_, .int _ _⟩
  | t => exact ⟨_, .bool _⟩
  | i2 t => exact ⟨_, .int _ _⟩
  | sa t => exact ⟨_, .str _ _⟩
  | se t => exact ⟨_, .str _ _⟩
  | n => exact ⟨_, .none⟩
  | tu1 e => exact ⟨_, .tuple e rfl rfl (.cons (.int _ _) .nil)⟩
  | tuT e => exact ⟨_, .tuple e rfl rfl (.cons (.bool _) .nil)⟩
  | l1 e => exact ⟨_, .list e rfl rfl (.cons (.int _ _) .nil)⟩
  | lT e => exact ⟨_, .list e rfl rfl (.cons (.bool _) .nil)⟩
  | d1 e d => cases hk
  | dT e d => cases hk
  | tl e d => exact ⟨_, .tuple e rfl rfl (.cons (.list d rfl rfl .nil) .nil)⟩
  | le e => exact ⟨_, .list e rfl rfl .nil⟩

theorem eqv_kind : ∀ i < 16, ∀ j < 16, isD i = false → isD j = false → PyData.eqv (dataT i) (dataT j) = (kindT i == kindT j) := by decide +kernel
theorem canLay_data : ∀ i < 16, isD i = false → (dataT i).canLay0 = true ∧ (dataT i).depth ≤ 2 := by decide +kernel

theorem eq_plain {A : Around} {s : Shared} {v u : Value} {i j : Nat} (hv : TAt s.heap v i) (hu : TAt s.heap u j) (hi : isD i = false) (hj : isD j = false) (hr : A.units + 2 < cLine) :
    EqAt A s v u (kindT i == kindT j) := by
  obtain ⟨as, ra⟩ := hv.reads hi
  obtain ⟨bs, rb⟩ := hu.reads hj
  have hi' := canLay_data i hv.lt hi
  have hj' := canLay_data j hu.lt hj
  rw [← eqv_kind i hv.lt j hu.lt hi hj]
  exact eqAt_reads _ _ A s v u as bs ra rb hi'.1 hj'.1 (by omega)

section
variable {prog : Program} {w : World} {A : Around} {E : Value → Shared → Prop} {s : Shared}

theorem dict_declines {d : Addr} {u : Value} {T : String} {od : Obj} {Q : Value → Shared → Prop} (hd : s.heap.get? d = some od) (hc : od.cls = .type "dict") (hT : s.TypeIs u T)
    (hsub : isSubtype (.type T) (.type "dict") = pure false) (h : Q .notImplemented s) : wpAny (model prog w) A (call (.builtin "dict.__eq__") [.ref d, u]) Q E s := by
  have ht : s.TypeIs (.ref d) "dict" := ⟨_, hd, hc⟩
  refine wpAny_call_entry PySem.F.slot_dict_eq ht PySem.F.entry_dict_eq ?_ (PySem.F.args_dict_eq_2 _ _)
  show wpAny _ _ (Builtin.Dict.dictSlotArgs "__eq__" ⟨[.ref d, u], []⟩ >>= _) _ _ s
  refine wpAny_bind ?_
  unfold Builtin.Dict.dictSlotArgs
  refine wpAny_bind (wpAny_notOrdered_dict ht ?_)
  show wpAny _ _ (pure (Value.ref d, u)) _ _ s
  refine wpAny_pure ?_
  refine wpAny_bind (wpAny_isInstance (T := T) hT hsub ?_)
  exact wpAny_bind (wpAny_rule (wpAny_pure ⟨_, rfl, h⟩))
end

theorem none_eq_dict (l : Addr) : Gives (Builtin.«NoneType.__eq__» ⟨[.none, .ref l], []⟩) (.val (Value.notImplemented)) := NoneType___eq___none_ref_0 l
theorem bool_eq_dict (b : Bool) (l : Addr) (o : Obj) (es : Array DictEntry) (n : Nat) (hd : o.data = .dict es n) :
    Meets (Builtin.«int.__eq__» ⟨[.bool b, .ref l], []⟩) (fun _ R s => s.heap.get? l = some o ∧ R (.ok (.ret .notImplemented)) s) :=
  .of_wp fun prog w A R s h => by obtain ⟨c, dd, dt, sl⟩ := o; cases hd; obtain ⟨hp, g, d, tk, os⟩ := s; obtain ⟨hl, h⟩ := h; wp_walk using wpAny_loadPart' hl, wpAny_load hl; exact ⟨_, rfl, h⟩
theorem int_eq_dict (b : Int) (u : Tok) (l : Addr) (o : Obj) (es : Array DictEntry) (n : Nat) (hd : o.data = .dict es n) :
    Meets (Builtin.«int.__eq__» ⟨[.int b u, .ref l], []⟩) (fun _ R s => s.heap.get? l = some o ∧ R (.ok (.ret .notImplemented)) s) :=
  .of_wp fun prog w A R s h => by obtain ⟨c, dd, dt, sl⟩ := o; cases hd; obtain ⟨hp, g, d, tk, os⟩ := s; obtain ⟨hl, h⟩ := h; wp_walk using wpAny_loadPart' hl, wpAny_load hl; exact ⟨_, rfl, h⟩
theorem str_eq_dict (b : Str) (u : Tok) (l : Addr) (o : Obj) (es : Array DictEntry) (n : Nat) (hd : o.data = .dict es n) :
    Meets (Builtin.«str.__eq__» ⟨[.str b u, .ref l], []⟩) (fun _ R s => s.heap.get? l = some o ∧ R (.ok (.ret .notImplemented)) s) :=
  .of_wp fun prog w A R s h => by obtain ⟨c, dd, dt, sl⟩ := o; cases hd; obtain ⟨hp, g, d, tk, os⟩ := s; obtain ⟨hl, h⟩ := h; wp_walk using wpAny_loadPart' hl, wpAny_load hl; exact ⟨_, rfl, h⟩
theorem list_eq_dict (l b : Addr) (ol ob : Obj) (hc : ol.cls = .type "list") (items : Array Value) (n : Nat) (hd : ol.data = .seq items n) (hc2 : ob.cls = .type "dict") :
    Meets (Builtin.«list.__eq__» ⟨[.ref l, .ref b], []⟩) (fun _ R s => s.heap.get? l = some ol ∧ s.heap.get? b = some ob ∧ R (.ok (.ret .notImplemented)) s) :=
  .of_wp fun prog w A R s h => by
    obtain ⟨c, dd, dt, sl⟩ := ol; obtain ⟨c2, dd2, dt2, sl2⟩ := ob; cases hd; cases hc; cases hc2
    obtain ⟨hp, g, d, tk, os⟩ := s; obtain ⟨hl, hb, h⟩ := h; have f1 := PySem.F.sub_dict_list; wp_walk using wpAny_loadPart' hl, wpAny_loadPart' hb, wpAny_load hb; exact ⟨_, rfl, h⟩
theorem tuple_eq_dict (l b : Addr) (ol ob : Obj) (hc : ol.cls = .type "tuple") (items : Array Value) (n : Nat) (hd : ol.data = .seq items n) (hc2 : ob.cls = .type "dict") :
    Meets (Builtin.«tuple.__eq__» ⟨[.ref l, .ref b], []⟩) (fun _ R s => s.heap.get? l = some ol ∧ s.heap.get? b = some ob ∧ R (.ok (.ret .notImplemented)) s) :=
  .of_wp fun prog w A R s h => by
    obtain ⟨c, dd, dt, sl⟩ := ol; obtain ⟨c2, dd2, dt2, sl2⟩ := ob; cases hd; cases hc; cases hc2
    obtain ⟨hp, g, d, tk, os⟩ := s; obtain ⟨hl, hb, h⟩ := h; have f1 := PySem.F.sub_dict_tuple; wp_walk using wpAny_loadPart' hl, wpAny_loadPart' hb, wpAny_load hb; exact ⟨_, rfl, h⟩

section
variable {A : Around} {s : Shared}

/-- the dict d at hand -/
structure DAt (s : Shared) (d : Addr) (od : Obj) (es : Array DictEntry) (n : Nat) : Prop where
  get : s.heap.get? d = some od
  cls : od.cls = .type "dict"
  data : od.data = .dict es n

theorem DAt.ty {d : Addr} {od : Obj} {es : Array DictEntry} {n : Nat} (D : DAt s d od es n) : s.TypeIs (.ref d) "dict" := ⟨_, D.get, D.cls⟩

theorem rc_dict_none {d : Addr} {od : Obj} {es : Array DictEntry} {n : Nat} (D : DAt s d od es n) (hu : A.units < cLine) : RcAt A s (.ref d) .none false := fun prog w E Q h =>
  rc_eq_decline_or (k := false) D.ty rfl (by decide) PySem.F.sub_NoneType_dict PySem.F.slot_dict_eq PySem.F.slot_NoneType_eq_refl
    (fun _ hq => dict_declines D.get D.cls rfl PySem.F.sub_NoneType_dict hq)
    (fun _ hq => call_gives PySem.F.slot_NoneType_eq_refl rfl PySem.F.entry_NoneType_eq (PySem.F.args_NoneType_eq_2 _ _) (none_eq_dict d) hq)
    (fun _ hq => wpAny_of_eq (rfl : isSame (.ref d) .none = pure false) hq) (.inr hu) h
theorem rc_none_dict {d : Addr} {od : Obj} {es : Array DictEntry} {n : Nat} (D : DAt s d od es n) (hu : A.units < cLine) : RcAt A s .none (.ref d) false := fun prog w E Q h =>
  rc_eq_decline_or (k := false) rfl D.ty (by decide) PySem.F.sub_dict_NoneType PySem.F.slot_NoneType_eq PySem.F.slot_dict_eq_refl
    (fun _ hq => call_gives PySem.F.slot_NoneType_eq rfl PySem.F.entry_NoneType_eq (PySem.F.args_NoneType_eq_2 _ _) (none_eq_dict d) hq)
    (fun _ hq => dict_declines D.get D.cls rfl PySem.F.sub_NoneType_dict hq)
    (fun _ hq => wpAny_of_eq (rfl : isSame .none (.ref d) = pure false) hq) (.inr hu) h
theorem rc_dict_bool {d : Addr} {od : Obj} {es : Array DictEntry} {n : Nat} (b : Bool) (D : DAt s d od es n) (hu : A.units < cLine) : RcAt A s (.ref d) (.bool b) false := fun prog w E Q h =>
  rc_eq_decline_or (k := false) D.ty rfl (by decide) PySem.F.sub_bool_dict PySem.F.slot_dict_eq PySem.F.slot_bool_eq_refl
    (fun _ hq => dict_declines D.get D.cls rfl PySem.F.sub_bool_dict hq)
    (fun _ hq => call_meets PySem.F.slot_bool_eq_refl rfl PySem.F.entry_int_eq (PySem.F.args_int_eq_2 _ _) (bool_eq_dict b d od es n D.data) ⟨D.get, hq⟩)
    (fun _ hq => wpAny_of_eq (rfl : isSame (.ref d) (.bool b) = pure false) hq) (.inr hu) h
theorem rc_bool_dict {d : Addr} {od : Obj} {es : Array DictEntry} {n : Nat} (b : Bool) (D : DAt s d od es n) (hu : A.units < cLine) : RcAt A s (.bool b) (.ref d) false := fun prog w E Q h =>
  rc_eq_decline_or (k := false) rfl D.ty (by decide) PySem.F.sub_dict_bool PySem.F.slot_bool_eq PySem.F.slot_dict_eq_refl
    (fun _ hq => call_meets PySem.F.slot_bool_eq rfl PySem.F.entry_int_eq (PySem.F.args_int_eq_2 _ _) (bool_eq_dict b d od es n D.data) ⟨D.get, hq⟩)
    (fun _ hq => dict_declines D.get D.cls rfl PySem.F.sub_bool_dict hq)
    (fun _ hq => wpAny_of_eq (rfl : isSame (.bool b) (.ref d) = pure false) hq) (.inr hu) h
theorem rc_dict_int {d : Addr} {od : Obj} {es : Array DictEntry} {n : Nat} (b : Int) (u : Tok) (D : DAt s d od es n) (hu : A.units < cLine) : RcAt A s (.ref d) (.int b u) false := fun prog w E Q h =>
  rc_eq_decline_or (k := false) D.ty (typeIs_int s b u) (by decide) PySem.F.sub_int_dict PySem.F.slot_dict_eq PySem.F.slot_int_eq_refl
    (fun _ hq => dict_declines D.get D.cls (typeIs_int s b u) PySem.F.sub_int_dict hq)
    (fun _ hq => call_meets PySem.F.slot_int_eq_refl (typeIs_int s b u) PySem.F.entry_int_eq (PySem.F.args_int_eq_2 _ _) (int_eq_dict b u d od es n D.data) ⟨D.get, hq⟩)
    (fun _ hq => wpAny_of_eq (rfl : isSame (.ref d) (.int b u) = pure false) hq) (.inr hu) h
theorem rc_int_dict {d : Addr} {od : Obj} {es : Array DictEntry} {n : Nat} (b : Int) (u : Tok) (D : DAt s d od es n) (hu : A.units < cLine) : RcAt A s (.int b u) (.ref d) false := fun prog w E Q h =>
  rc_eq_decline_or (k := false) (typeIs_int s b u) D.ty (by decide) PySem.F.sub_dict_int PySem.F.slot_int_eq PySem.F.slot_dict_eq_refl
    (fun _ hq => call_meets PySem.F.slot_int_eq (typeIs_int s b u) PySem.F.entry_int_eq (PySem.F.args_int_eq_2 _ _) (int_eq_dict b u d od es n D.data) ⟨D.get, hq⟩)
    (fun _ hq => dict_declines D.get D.cls (typeIs_int s b u) PySem.F.sub_int_dict hq)
    (fun _ hq => wpAny_of_eq (rfl : isSame (.int b u) (.ref d) = pure false) hq) (.inr hu) h
theorem rc_dict_str {d : Addr} {od : Obj} {es : Array DictEntry} {n : Nat} (b : Str) (u : Tok) (D : DAt s d od es n) (hu : A.units < cLine) : RcAt A s (.ref d) (.str b u) false := fun prog w E Q h =>
  rc_eq_decline_or (k := false) D.ty (typeIs_str s b u) (by decide) PySem.F.sub_str_dict PySem.F.slot_dict_eq PySem.F.slot_str_eq_refl
    (fun _ hq => dict_declines D.get D.cls (typeIs_str s b u) PySem.F.sub_str_dict hq)
    (fun _ hq => call_meets PySem.F.slot_str_eq_refl (typeIs_str s b u) PySem.F.entry_str_eq (PySem.F.args_str_eq_2 _ _) (str_eq_dict b u d od es n D.data) ⟨D.get, hq⟩)
    (fun _ hq => wpAny_of_eq (rfl : isSame (.ref d) (.str b u) = pure false) hq) (.inr hu) h
theorem rc_str_dict {d : Addr} {od : Obj} {es : Array DictEntry} {n : Nat} (b : Str) (u : Tok) (D : DAt s d od es n) (hu : A.units < cLine) : RcAt A s (.str b u) (.ref d) false := fun prog w E Q h =>
  rc_eq_decline_or (k := false) (typeIs_str s b u) D.ty (by decide) PySem.F.sub_dict_str PySem.F.slot_str_eq PySem.F.slot_dict_eq_refl
    (fun _ hq => call_meets PySem.F.slot_str_eq (typeIs_str s b u) PySem.F.entry_str_eq (PySem.F.args_str_eq_2 _ _) (str_eq_dict b u d od es n D.data) ⟨D.get, hq⟩)
    (fun _ hq => dict_declines D.get D.cls (typeIs_str s b u) PySem.F.sub_str_dict hq)
    (fun _ hq => wpAny_of_eq (rfl : isSame (.str b u) (.ref d) = pure false) hq) (.inr hu) h

theorem DAt.ne {d l : Addr} {od ol : Obj} {es : Array DictEntry} {n : Nat} {T : String} (D : DAt s d od es n) (hl : s.heap.get? l = some ol) (hc : ol.cls = .type T) (hT : T ≠ "dict") : l ≠ d := by
  rintro rfl
  have := D.get
  rw [hl] at this
  cases this
  have := D.cls
  rw [hc] at this
  injection this with e
  exact hT e

theorem rc_dict_list {d l : Addr} {od ol : Obj} {es : Array DictEntry} {n m : Nat} {vs : Array Value} (D : DAt s d od es n) (hl : s.heap.get? l = some ol) (hc : ol.cls = .type "list") (hd : ol.data = .seq vs m) (hu : A.units < cLine) :
    RcAt A s (.ref d) (.ref l) false := fun prog w E Q h =>
  rc_eq_decline_or (k := false) D.ty ⟨_, hl, hc⟩ (by decide) PySem.F.sub_list_dict PySem.F.slot_dict_eq PySem.F.slot_list_eq_refl
    (fun _ hq => dict_declines D.get D.cls ⟨_, hl, hc⟩ PySem.F.sub_list_dict hq)
    (fun _ hq => call_meets PySem.F.slot_list_eq_refl ⟨_, hl, hc⟩ PySem.F.entry_list_eq (PySem.F.args_list_eq_2 _ _) (list_eq_dict l d ol od hc vs m hd D.cls) ⟨hl, D.get, hq⟩)
    (fun _ hq => wpAny_isSame_ref_other' (Ne.symm (D.ne hl hc (by decide))) D.get hl (by rw [hc]; decide) hq) (.inr hu) h
theorem rc_list_dict {d l : Addr} {od ol : Obj} {es : Array DictEntry} {n m : Nat} {vs : Array Value} (D : DAt s d od es n) (hl : s.heap.get? l = some ol) (hc : ol.cls = .type "list") (hd : ol.data = .seq vs m) (hu : A.units < cLine) :
    RcAt A s (.ref l) (.ref d) false := fun prog w E Q h =>
  rc_eq_decline_or (k := false) ⟨_, hl, hc⟩ D.ty (by decide) PySem.F.sub_dict_list PySem.F.slot_list_eq PySem.F.slot_dict_eq_refl
    (fun _ hq => call_meets PySem.F.slot_list_eq ⟨_, hl, hc⟩ PySem.F.entry_list_eq (PySem.F.args_list_eq_2 _ _) (list_eq_dict l d ol od hc vs m hd D.cls) ⟨hl, D.get, hq⟩)
    (fun _ hq => dict_declines D.get D.cls ⟨_, hl, hc⟩ PySem.F.sub_list_dict hq)
    (fun _ hq => wpAny_isSame_ref_other' (D.ne hl hc (by decide)) hl D.get (by rw [D.cls]; decide) hq) (.inr hu) h
theorem rc_dict_tuple {d l : Addr} {od ol : Obj} {es : Array DictEntry} {n m : Nat} {vs : Array Value} (D : DAt s d od es n) (hl : s.heap.get? l = some ol) (hc : ol.cls = .type "tuple") (hd : ol.data = .seq vs m) (hu : A.units < cLine) :
    RcAt A s (.ref d) (.ref l) false := fun prog w E Q h =>
  rc_eq_decline_or (k := false) D.ty ⟨_, hl, hc⟩ (by decide) PySem.F.sub_tuple_dict PySem.F.slot_dict_eq PySem.F.slot_tuple_eq_refl
    (fun _ hq => dict_declines D.get D.cls ⟨_, hl, hc⟩ PySem.F.sub_tuple_dict hq)
    (fun _ hq => call_meets PySem.F.slot_tuple_eq_refl ⟨_, hl, hc⟩ PySem.F.entry_tuple_eq (PySem.F.args_tuple_eq_2 _ _) (tuple_eq_dict l d ol od hc vs m hd D.cls) ⟨hl, D.get, hq⟩)
    (fun _ hq => wpAny_isSame_ref_other (Ne.symm (D.ne hl hc (by decide))) D.get hl (by rw [D.cls]; decide) hq) (.inr hu) h
theorem rc_tuple_dict {d l : Addr} {od ol : Obj} {es : Array DictEntry} {n m : Nat} {vs : Array Value} (D : DAt s d od es n) (hl : s.heap.get? l = some ol) (hc : ol.cls = .type "tuple") (hd : ol.data = .seq vs m) (hu : A.units < cLine) :
    RcAt A s (.ref l) (.ref d) false := fun prog w E Q h =>
  rc_eq_decline_or (k := false) ⟨_, hl, hc⟩ D.ty (by decide) PySem.F.sub_dict_tuple PySem.F.slot_tuple_eq PySem.F.slot_dict_eq_refl
    (fun _ hq => call_meets PySem.F.slot_tuple_eq ⟨_, hl, hc⟩ PySem.F.entry_tuple_eq (PySem.F.args_tuple_eq_2 _ _) (tuple_eq_dict l d ol od hc vs m hd D.cls) ⟨hl, D.get, hq⟩)
    (fun _ hq => dict_declines D.get D.cls ⟨_, hl, hc⟩ PySem.F.sub_tuple_dict hq)
    (fun _ hq => wpAny_isSame_ref_other' (D.ne hl hc (by decide)) hl D.get (by rw [D.cls]; decide) hq) (.inr hu) h
end
end Mine

namespace Mine
open PySem.SeqAt PySem.MeetsSeq
open AutoSeq1 (wpAny_loadPart')
section
variable {prog : Program} {w : World} {A : Around} {E : Value → Shared → Prop} {s : Shared}

theorem dictFind_k {d : Addr} {hs hx : Int} {t t' : Tok} {v : Value} {n : Nat} {Q : Option Nat → Shared → Prop} (hd : s.heap.get? d = some (dctO hs t v n)) (h : Q (some 0) s) :
    wpAny (model prog w) A (dictFind d (.str kS t') hx) Q E s := by
  unfold dictFind
  refine wpAny_holding ?_
  refine wpAny_bind (wpAny_dictEntries hd rfl ?_)
  dsimp only
  rw [if_pos (by simp [isExactStrKey])]
  unfold foundByValue
  rw [show (Array.findIdx? (fun e : DictEntry => e.key.isStr kS) #[⟨hs, .str kS t, v⟩]) = some 0 from by simp [Value.isStr]]
  dsimp only
  refine wpAny_bind (wpAny_dictEpoch hd rfl ?_)
  refine wpAny_bind (wpAny_eqBool_str ?_)
  refine wpAny_bind (wpAny_dictEpoch hd rfl ?_)
  simp only [bne_self_eq_false, Bool.false_eq_true, if_false, decide_true, if_true]
  exact wpAny_bind (wpAny_rule (wpAny_pure h))

theorem samePairs_k {nm : String} {a b : Addr} {hs hs' : Int} {t t' : Tok} {v v' : Value} {n n' : Nat} {e : Bool} {Q : Bool → Shared → Prop} (ha : (a == sysModules) = false) (hb : (b == sysModules) = false)
    (da : s.heap.get? a = some (dctO hs t v n)) (db : s.heap.get? b = some (dctO hs' t' v' n')) (he : EqAt A s v v' e) (h : Q e s) :
    wpAny (model prog w) A (Builtin.Dict.samePairs nm a b) Q E s := by
  unfold Builtin.Dict.samePairs Builtin.Dict.showsAll
  rw [if_neg (show ¬ (a == sysModules) = true by rw [ha]; exact Bool.false_ne_true), if_neg (show ¬ (b == sysModules) = true by rw [hb]; exact Bool.false_ne_true)]
  refine wpAny_bind (wpAny_pure (wpAny_bind (wpAny_pure ?_)))
  refine wpAny_bind (wpAny_dictEntries da rfl ?_)
  dsimp only
  refine wpAny_bind (wpAny_dictEntries db rfl ?_)
  rw [if_neg (by simp)]
  refine wpAny_bind (wpAny_dictEpoch da rfl ?_)
  refine wpAny_bind ?_
  rw [Std.Legacy.Range.forIn_eq_forIn_range']
  simp only [Std.Legacy.Range.size, Nat.sub_zero, Nat.add_sub_cancel, Nat.div_one, List.size_toArray, List.length_cons, List.length_nil, Nat.zero_add, List.range'_succ, List.range'_zero, List.forIn_cons, List.forIn_nil]
  refine wpAny_bind (wpAny_bind (wpAny_dictEntries da rfl ?_))
  refine wpAny_bind (wpAny_holding (wpAny_bind (dictFind_k db ?_)))
  refine wpAny_bind (wpAny_dictEntries db rfl ?_)
  refine wpAny_holding (he prog w _ _ ?_)
  cases e with
  | false =>
    simp only [Bool.not_false, if_true]
    exact wpAny_pure (wpAny_pure (wpAny_pure h))
  | true =>
    simp only [Bool.not_true, Bool.false_eq_true, if_false]
    refine wpAny_bind (wpAny_dictEpoch da rfl ?_)
    simp only [bne_self_eq_false, Bool.false_eq_true, if_false]
    exact wpAny_pure (wpAny_pure (wpAny_pure h))
end

section
variable {A : Around} {s : Shared}
theorem rc_dict_dict {a b : Addr} {hs hs' : Int} {t t' : Tok} {v v' : Value} {n n' : Nat} {e : Bool} (ha : (a == sysModules) = false) (hb : (b == sysModules) = false)
    (da : s.heap.get? a = some (dctO hs t v n)) (db : s.heap.get? b = some (dctO hs' t' v' n')) (he : EqAt A.in1 s v v' e) (hu : A.units < cLine) : RcAt A s (.ref a) (.ref b) e := fun prog w E Q h => by
  have ta : s.TypeIs (.ref a) "dict" := ⟨_, da, rfl⟩
  have tb : s.TypeIs (.ref b) "dict" := ⟨_, db, rfl⟩
  refine wpAny_richCompare_same_room (op := .Eq) ta tb PySem.F.slot_dict_eq (wpAny_call_entry PySem.F.slot_dict_eq ta PySem.F.entry_dict_eq ?_ (PySem.F.args_dict_eq_2 _ _)) hu
  show wpAny _ _ (Builtin.Dict.dictSlotArgs "__eq__" ⟨[.ref a, .ref b], []⟩ >>= _) _ _ s
  refine wpAny_bind ?_
  unfold Builtin.Dict.dictSlotArgs
  refine wpAny_bind (wpAny_notOrdered_dict ta ?_)
  show wpAny _ _ (pure (Value.ref a, Value.ref b)) _ _ s
  refine wpAny_pure ?_
  refine wpAny_bind (wpAny_isInstance (T := "dict") tb PySem.F.sub_dict_dict ?_)
  simp only [Bool.not_true, Bool.false_eq_true, if_false]
  refine wpAny_bind (wpAny_pure (wpAny_bind (wpAny_pure ?_)))
  refine wpAny_bind (samePairs_k ha hb da db he ?_)
  refine wpAny_pure ⟨_, rfl, ?_, ?_⟩
  · exact fun x => nomatch x
  · simpa using h

/-- == of a thing and itself, by a dict -/
theorem ne_dict_self {prog : Program} {w : World} {E : Value → Shared → Prop} {Q : Value → Shared → Prop} {a : Addr} {hs : Int} {t : Tok} {v : Value} {n : Nat} (ha : (a == sysModules) = false)
    (da : s.heap.get? a = some (dctO hs t v n)) (hu : A.units < cLine) (h : Q (.bool false) s) : wpAny (model prog w) A (richCompare .NotEq (.ref a) (.ref a)) Q E s := by
  have ta : s.TypeIs (.ref a) "dict" := ⟨_, da, rfl⟩
  refine wpAny_richCompare_same_room (op := .NotEq) ta ta PySem.F.slot_dict_ne (wpAny_call_entry PySem.F.slot_dict_ne ta PySem.F.entry_dict_ne ?_ (PySem.F.args_dict_ne_2 _ _)) hu
  show wpAny _ _ (Builtin.Dict.dictSlotArgs "__ne__" ⟨[.ref a, .ref a], []⟩ >>= _) _ _ s
  refine wpAny_bind ?_
  unfold Builtin.Dict.dictSlotArgs
  refine wpAny_bind (wpAny_notOrdered_dict ta ?_)
  show wpAny _ _ (pure (Value.ref a, Value.ref a)) _ _ s
  refine wpAny_pure ?_
  refine wpAny_bind (wpAny_isInstance (T := "dict") ta PySem.F.sub_dict_dict ?_)
  simp only [Bool.not_true, Bool.false_eq_true, if_false]
  refine wpAny_bind (wpAny_pure (wpAny_bind (wpAny_pure ?_)))
  refine wpAny_bind (samePairs_k ha ha da da (EqAt.same v) ?_)
  refine wpAny_pure ⟨_, rfl, ?_, ?_⟩
  · exact fun x => nomatch x
  · simpa using h

theorem eqAt_of_rc {v u : Value} {e : Bool} (hne : (v == u) = false) (hf : ∀ p t q r, v = .float p t → u = .float q r → False) (h : RcAt A s v u e) : EqAt A s v u e := fun prog w E Q hq => by
  unfold eqBool
  refine wpAny_holding ?_
  rw [if_neg (by rw [hne]; exact Bool.false_ne_true)]
  cases v <;> cases u <;> first | exact (hf _ _ _ _ rfl rfl).elim | exact wpAny_bind (h prog w E _ (wpAny_truthy_bool hq))

theorem TAt.dict {v : Value} {k : Nat} (x : TAt s.heap v k) (hk : isD k = true) : ∃ a hs t u n, v = .ref a ∧ s.heap.get? a = some (dctO hs t u n) ∧ (a == sysModules) = false ∧
    ((∃ z, u = .int 1 z) ∨ u = .bool true) := by
  cases x <;> first | cases hk | skip
  · rename_i e d; exact ⟨_, _, _, _, _, rfl, e, d, .inl ⟨_, rfl⟩⟩
  · rename_i e d; exact ⟨_, _, _, _, _, rfl, e, d, .inr rfl⟩

theorem isD_kind {k : Nat} (h : k < 16) (hk : isD k = true) : kindT k = 8 := by
  revert k; decide
theorem notD_kind {k : Nat} (h : k < 16) (hk : isD k = false) : kindT k ≠ 8 := by
  revert k; decide

theorem eq_dict_plain {d : Addr} {hs : Int} {t : Tok} {x : Value} {n : Nat} {u : Value} {j : Nat} (hd : s.heap.get? d = some (dctO hs t x n)) (hu : TAt s.heap u j) (hj : isD j = false) (hr : A.units < cLine) : EqAt A s (.ref d) u false := by
  have D : DAt s d _ _ n := ⟨hd, rfl, rfl⟩
  cases hu with
  | i0 t => exact eqAt_of_rc (by rfl) (by intros; contradiction) (rc_dict_int _ _ D hr)
  | f => exact eqAt_of_rc (by rfl) (by intros; contradiction) (rc_dict_bool _ D hr)
  | i1 t => exact eqAt_of_rc (by rfl) (by intros; contradiction) (rc_dict_int _ _ D hr)
  | t => exact eqAt_of_rc (by rfl) (by intros; contradiction) (rc_dict_bool _ D hr)
  | i2 t => exact eqAt_of_rc (by rfl) (by intros; contradiction) (rc_dict_int _ _ D hr)
  | sa t => exact eqAt_of_rc (by rfl) (by intros; contradiction) (rc_dict_str _ _ D hr)
  | se t => exact eqAt_of_rc (by rfl) (by intros; contradiction) (rc_dict_str _ _ D hr)
  | n => exact eqAt_of_rc (by rfl) (by intros; contradiction) (rc_dict_none D hr)
  | tu1 e => exact .of_refs (Ne.symm (D.ne e rfl (by decide))) (rc_dict_tuple D e rfl rfl hr)
  | tuT e => exact .of_refs (Ne.symm (D.ne e rfl (by decide))) (rc_dict_tuple D e rfl rfl hr)
  | l1 e => exact .of_refs (Ne.symm (D.ne e rfl (by decide))) (rc_dict_list D e rfl rfl hr)
  | lT e => exact .of_refs (Ne.symm (D.ne e rfl (by decide))) (rc_dict_list D e rfl rfl hr)
  | d1 e d => cases hj
  | dT e d => cases hj
  | tl e d => exact .of_refs (Ne.symm (D.ne e rfl (by decide))) (rc_dict_tuple D e rfl rfl hr)
  | le e => exact .of_refs (Ne.symm (D.ne e rfl (by decide))) (rc_dict_list D e rfl rfl hr)
theorem eq_plain_dict {d : Addr} {hs : Int} {t : Tok} {x : Value} {n : Nat} {u : Value} {j : Nat} (hd : s.heap.get? d = some (dctO hs t x n)) (hu : TAt s.heap u j) (hj : isD j = false) (hr : A.units < cLine) : EqAt A s u (.ref d) false := by
  have D : DAt s d _ _ n := ⟨hd, rfl, rfl⟩
  cases hu with
  | i0 t => exact eqAt_of_rc (by rfl) (by intros; contradiction) (rc_int_dict _ _ D hr)
  | f => exact eqAt_of_rc (by rfl) (by intros; contradiction) (rc_bool_dict _ D hr)
  | i1 t => exact eqAt_of_rc (by rfl) (by intros; contradiction) (rc_int_dict _ _ D hr)
  | t => exact eqAt_of_rc (by rfl) (by intros; contradiction) (rc_bool_dict _ D hr)
  | i2 t => exact eqAt_of_rc (by rfl) (by intros; contradiction) (rc_int_dict _ _ D hr)
  | sa t => exact eqAt_of_rc (by rfl) (by intros; contradiction) (rc_str_dict _ _ D hr)
  | se t => exact eqAt_of_rc (by rfl) (by intros; contradiction) (rc_str_dict _ _ D hr)
  | n => exact eqAt_of_rc (by rfl) (by intros; contradiction) (rc_none_dict D hr)
  | tu1 e => exact .of_refs (D.ne e rfl (by decide)) (rc_tuple_dict D e rfl rfl hr)
  | tuT e => exact .of_refs (D.ne e rfl (by decide)) (rc_tuple_dict D e rfl rfl hr)
  | l1 e => exact .of_refs (D.ne e rfl (by decide)) (rc_list_dict D e rfl rfl hr)
  | lT e => exact .of_refs (D.ne e rfl (by decide)) (rc_list_dict D e rfl rfl hr)
  | d1 e d => cases hj
  | dT e d => cases hj
  | tl e d => exact .of_refs (D.ne e rfl (by decide)) (rc_tuple_dict D e rfl rfl hr)
  | le e => exact .of_refs (D.ne e rfl (by decide)) (rc_list_dict D e rfl rfl hr)

/-- two things are equal just if their kinds are -/
theorem eq_things {v u : Value} {i j : Nat} (hv : TAt s.heap v i) (hu : TAt s.heap u j) (hr : A.units + 4 < cLine) : EqAt A s v u (kindT i == kindT j) := by
  cases hi : isD i with
  | false =>
    cases hj : isD j with
    | false => exact eq_plain hv hu hi hj (by omega)
    | true =>
      obtain ⟨a, hs, t, x, n, rfl, ho, _, _⟩ := hu.dict hj
      have e : (kindT i == kindT j) = false := by rw [isD_kind hu.lt hj]; simpa using notD_kind hv.lt hi
      rw [e]
      exact eq_plain_dict ho hv hi (by omega)
  | true =>
    obtain ⟨a, hs, t, x, n, rfl, ho, ha, hx⟩ := hv.dict hi
    cases hj : isD j with
    | false =>
      have e : (kindT i == kindT j) = false := by rw [isD_kind hv.lt hi]; simpa using (notD_kind hu.lt hj).symm
      rw [e]
      exact eq_dict_plain ho hu hj (by omega)
    | true =>
      obtain ⟨b, hs', t', y, n', rfl, ho', hb, hy⟩ := hu.dict hj
      have e : (kindT i == kindT j) = true := by rw [isD_kind hv.lt hi, isD_kind hu.lt hj]; rfl
      rw [e]
      by_cases hab : a = b
      · subst hab; exact EqAt.same _
      · refine .of_refs hab (rc_dict_dict ha hb ho ho' ?_ (by omega))
        rcases hx with ⟨z, rfl⟩ | rfl <;> rcases hy with ⟨z', rfl⟩ | rfl
        · exact EqAt.int_int _ _ _ _
        · exact EqAt.int_bool _ _ _
        · exact EqAt.bool_int _ _ _
        · exact EqAt.bool_bool _ _
end
end Mine

namespace Mine
open PySem.SeqAt PySem.MeetsSeq

/-- the part of a heap at the addresses P -/
def pick (h : Heap) (P : Addr → Bool) : Heap := ⟨h.objs.mapIdx (fun i o => if P i then o else { o with data := .freed }), h.life⟩

theorem pick_get (h : Heap) (P : Addr → Bool) (b : Addr) : (pick h P).get? b = if P b = true then h.get? b else none := by
  unfold pick Heap.get?
  simp only [Array.getElem?_mapIdx]
  cases e : h.objs[b]? with
  | none => simp
  | some o =>
    simp only [Option.map_some]
    by_cases hp : P b = true
    · simp only [hp, if_true]
    · simp only [hp, if_false]
      rfl

/-- from (S, s) to (S', s'): nothing that stood is changed; S' is S and some of what is new -/
structure Ext (S : Heap) (s : Shared) (S' : Heap) (s' : Shared) : Prop where
  st : ∃ h tk, s' = { s with heap := h, toks := tk }
  keep : Sub s.heap s'.heap
  le : Sub S S'
  sub : Sub S' s'.heap
  new : ∀ b o, s.heap.get? b = some o → S'.get? b = S.get? b

theorem Ext.refl {S : Heap} {s : Shared} (h : Sub S s.heap) : Ext S s S s := ⟨⟨s.heap, s.toks, rfl⟩, fun _ _ e => e, fun _ _ e => e, h, fun _ _ _ => rfl⟩
theorem Ext.toks {S : Heap} {s : Shared} (h : Sub S s.heap) (tk : Nat) : Ext S s S { s with toks := tk } := ⟨⟨s.heap, tk, rfl⟩, fun _ _ e => e, fun _ _ e => e, h, fun _ _ _ => rfl⟩
theorem Ext.trans {S S' S'' : Heap} {s s' s'' : Shared} (x : Ext S s S' s') (y : Ext S' s' S'' s'') : Ext S s S'' s'' := by
  obtain ⟨h, tk, rfl⟩ := x.st
  obtain ⟨h', tk', rfl⟩ := y.st
  exact ⟨⟨h', tk', rfl⟩, fun b o e => y.keep b o (x.keep b o e), fun b o e => y.le b o (x.le b o e), y.sub, fun b o e => (y.new b o (x.keep b o e)).trans (x.new b o e)⟩

/-- a frame at work: locals at L; S stands still, B (all that stood at the call, and more) too -/
structure Frm (S₀ : Heap) (s₀ : Shared) (B S : Heap) (L : Addr) (s : Shared) (m : Str → Option Value) : Prop where
  st : ∃ h tk, s = { s₀ with heap := h, toks := tk }
  base : Sub s₀.heap B
  keep : Sub B s.heap
  le : Sub S₀ S
  sub : Sub S s.heap
  new : ∀ b o, B.get? b = some o → S.get? b = S₀.get? b
  ns : s.heap.Ns L m
  offB : B.get? L = none
  off : S.get? L = none

/-- an object of the frame's own, that it may change -/
structure Own (S₀ : Heap) (B S : Heap) (L a : Addr) : Prop where
  offB : B.get? a = none
  off : S.get? a = none
  off0 : S₀.get? a = none
  ne : a ≠ L

theorem get?_none_of_size {h h' : Heap} (hs : Sub h h') {a : Addr} (ha : h'.objs.size ≤ a) : h.get? a = none := by
  cases e : h.get? a with
  | none => rfl
  | some o => exact absurd (Heap.lt_size (hs _ _ e)) (Nat.not_lt.mpr ha)

section
variable {S₀ : Heap} {s₀ : Shared} {B S : Heap} {L : Addr} {s : Shared} {m : Str → Option Value}

theorem Frm.ext (F : Frm S₀ s₀ B S L s m) : Ext S₀ s₀ S s := ⟨F.st, fun b o e => F.keep b o (F.base b o e), F.le, F.sub, fun b o e => F.new b o (F.base b o e)⟩

theorem Frm.toks (F : Frm S₀ s₀ B S L s m) (tk : Nat) : Frm S₀ s₀ B S L { s with toks := tk } m := by
  obtain ⟨h, t, rfl⟩ := F.st
  exact ⟨⟨h, tk, rfl⟩, F.base, F.keep, F.le, F.sub, F.new, F.ns, F.offB, F.off⟩

/-- a change at L alone -/
theorem Frm.set {h' : Heap} {m' : Str → Option Value} (F : Frm S₀ s₀ B S L s m) (hn : h'.Ns L m') (hs : Heap.SameBut L s.heap h') (tk : Nat) : Frm S₀ s₀ B S L { s with heap := h', toks := tk } m' := by
  obtain ⟨h, t, rfl⟩ := F.st
  refine ⟨⟨h', tk, rfl⟩, F.base, fun b o e => hs.extBut b o ?_ (F.keep b o e), F.le, fun b o e => hs.extBut b o ?_ (F.sub b o e), F.new, hn, F.offB, F.off⟩
  · rintro rfl; rw [F.offB] at e; cases e
  · rintro rfl; rw [F.off] at e; cases e

/-- a change at an object of its own, and new objects -/
theorem Frm.upd {h' : Heap} {a : Addr} (F : Frm S₀ s₀ B S L s m) (O : Own S₀ B S L a) (hs : Heap.ExtBut a s.heap h') (tk : Nat) : Frm S₀ s₀ B S L { s with heap := h', toks := tk } m := by
  obtain ⟨h, t, rfl⟩ := F.st
  refine ⟨⟨h', tk, rfl⟩, F.base, fun b o e => hs b o ?_ (F.keep b o e), F.le, fun b o e => hs b o ?_ (F.sub b o e), F.new, F.ns.extBut hs (Ne.symm O.ne), F.offB, F.off⟩
  · rintro rfl; rw [O.offB] at e; cases e
  · rintro rfl; rw [O.off] at e; cases e

/-- new objects alone -/
theorem Frm.grow {h' : Heap} (F : Frm S₀ s₀ B S L s m) (hk : Sub s.heap h') (tk : Nat) : Frm S₀ s₀ B S L { s with heap := h', toks := tk } m := by
  obtain ⟨h, t, rfl⟩ := F.st
  exact ⟨⟨h', tk, rfl⟩, F.base, fun b o e => hk b o (F.keep b o e), F.le, fun b o e => hk b o (F.sub b o e), F.new, F.ns.keeps hk, F.offB, F.off⟩

theorem Frm.fresh (F : Frm S₀ s₀ B S L s m) {a : Addr} (ha : s.heap.get? a = none) : Own S₀ B S L a := by
  refine ⟨?_, ?_, ?_, ?_⟩
  · cases e : B.get? a with
    | none => rfl
    | some o => rw [F.keep _ _ e] at ha; cases ha
  · cases e : S.get? a with
    | none => rfl
    | some o => rw [F.sub _ _ e] at ha; cases ha
  · cases e : S₀.get? a with
    | none => rfl
    | some o => rw [F.sub _ _ (F.le _ _ e)] at ha; cases ha
  · rintro rfl
    obtain ⟨o, _, _, ho, _⟩ := F.ns
    rw [ho] at ha; cases ha

theorem push_none (h : Heap) : h.get? h.objs.size = none := get?_none_of_size (fun _ _ e => e) (Nat.le_refl _)

/-- behind a call -/
theorem Frm.after {S' : Heap} {s' : Shared} (F : Frm S₀ s₀ B S L s m) (x : Ext S s S' s') : Frm S₀ s₀ B S' L s' m := by
  obtain ⟨h, t, rfl⟩ := F.st
  obtain ⟨h', t', rfl⟩ := x.st
  refine ⟨⟨h', t', rfl⟩, F.base, fun b o e => x.keep b o (F.keep b o e), fun b o e => x.le b o (F.le b o e), x.sub, fun b o e => (x.new b o (F.keep b o e)).trans (F.new b o e), F.ns.keeps x.keep, F.offB, ?_⟩
  obtain ⟨o, _, _, ho, _⟩ := F.ns
  rw [x.new L o ho]; exact F.off
theorem Own.after {S' : Heap} {s' : Shared} {a : Addr} {o : Obj} (O : Own S₀ B S L a) (x : Ext S s S' s') (ho : s.heap.get? a = some o) : Own S₀ B S' L a :=
  ⟨O.offB, (x.new a o ho).trans O.off, O.off0, O.ne⟩

/-- what the frame has made is handed on: it stands still from now on -/
theorem Frm.freeze (F : Frm S₀ s₀ B S L s m) : ∃ S', Ext S₀ s₀ S' s ∧ Sub S S' ∧ ∀ b, B.get? b = none → S'.get? b = s.heap.get? b := by
  refine ⟨pick s.heap fun b => (S.get? b).isSome || (B.get? b).isNone, ⟨F.st, fun b o e => F.keep b o (F.base b o e), fun b o e => ?_, fun b o e => ?_, fun b o e => ?_⟩, fun b o e => ?_, fun b e => ?_⟩
  · rw [pick_get, if_pos (by simp [F.le b o e])]; exact F.sub b o (F.le b o e)
  · rw [pick_get] at e; split at e
    · exact e
    · cases e
  · rw [pick_get]
    have hb := F.base b o e
    have hn := F.new b o hb
    cases hS : S.get? b with
    | none => rw [if_neg (by simp [hb])]; rw [← hn, hS]
    | some o' => rw [if_pos (by simp), F.sub b o' hS, ← hn, hS]
  · rw [pick_get, if_pos (by simp [e])]; exact F.sub b o e
  · rw [pick_get, if_pos (by simp [e])]

/-- an object of its own, from now on left alone, is taken into S -/
theorem Frm.take (F : Frm S₀ s₀ B S L s m) {a : Addr} {o : Obj} (O : Own S₀ B S L a) (ho : s.heap.get? a = some o) :
    ∃ S', Frm S₀ s₀ B S' L s m ∧ Sub S S' ∧ S'.get? a = some o ∧ ∀ b, b ≠ a → S'.get? b = S.get? b := by
  have hne : ∀ b o', S.get? b = some o' → b ≠ a := fun b o' e q => by rw [q, O.off] at e; cases e
  have hg : ∀ b, (pick s.heap fun b => (S.get? b).isSome || b == a).get? b = if b = a then some o else S.get? b := fun b => by
    rw [pick_get]
    by_cases hb : b = a
    · subst hb; simp [ho]
    · simp only [hb, if_false]
      cases e : S.get? b with
      | none => simp [e, hb]
      | some o' => simp [e, F.sub b o' e]
  refine ⟨pick s.heap fun b => (S.get? b).isSome || b == a, ⟨F.st, F.base, F.keep, fun b o' e => ?_, fun b o' e => ?_, fun b o' e => ?_, F.ns, F.offB, ?_⟩, fun b o' e => ?_, ?_, fun b hb => ?_⟩
  · rw [hg, if_neg (hne b o' (F.le b o' e))]; exact F.le b o' e
  · rw [pick_get] at e; split at e
    · exact e
    · cases e
  · rw [hg, if_neg]
    · exact F.new b o' e
    · rintro rfl; rw [O.offB] at e; cases e
  · rw [hg, if_neg (Ne.symm O.ne)]; exact F.off
  · rw [hg, if_neg (hne b o' e)]; exact e
  · rw [hg, if_pos rfl]
  · rw [hg, if_neg hb]

/-- an object of its own is taken into B for a while -/
theorem Frm.hold (F : Frm S₀ s₀ B S L s m) {a : Addr} {o : Obj} (O : Own S₀ B S L a) (ho : s.heap.get? a = some o) :
    ∃ B', Frm S₀ s₀ B' S L s m ∧ Sub B B' ∧ B'.get? a = some o ∧ ∀ b, b ≠ a → B'.get? b = B.get? b := by
  have hne : ∀ b o', B.get? b = some o' → b ≠ a := fun b o' e q => by rw [q, O.offB] at e; cases e
  have hg : ∀ b, (pick s.heap fun b => (B.get? b).isSome || b == a).get? b = if b = a then some o else B.get? b := fun b => by
    rw [pick_get]
    by_cases hb : b = a
    · subst hb; simp [ho]
    · simp only [hb, if_false]
      cases e : B.get? b with
      | none => simp [e, hb]
      | some o' => simp [e, F.keep b o' e]
  refine ⟨pick s.heap fun b => (B.get? b).isSome || b == a, ⟨F.st, fun b o' e => ?_, fun b o' e => ?_, F.le, F.sub, fun b o' e => ?_, F.ns, ?_, F.off⟩, fun b o' e => ?_, ?_, fun b hb => ?_⟩
  · rw [hg, if_neg (hne b o' (F.base b o' e))]; exact F.base b o' e
  · rw [pick_get] at e; split at e
    · exact e
    · cases e
  · rw [hg] at e
    by_cases hb : b = a
    · subst hb; rw [O.off, O.off0]
    · rw [if_neg hb] at e; exact F.new b o' e
  · rw [hg, if_neg (Ne.symm O.ne)]; exact F.offB
  · rw [hg, if_neg (hne b o' e)]; exact e
  · rw [hg, if_pos rfl]
  · rw [hg, if_neg hb]

/-- back to the elder B -/
theorem Frm.unhold {B' : Heap} (F : Frm S₀ s₀ B' S L s m) (hb : Sub s₀.heap B) (hs : Sub B B') : Frm S₀ s₀ B S L s m := by
  refine ⟨F.st, hb, fun b o e => F.keep b o (hs b o e), F.le, F.sub, fun b o e => F.new b o (hs b o e), F.ns, ?_, F.off⟩
  cases e : B.get? L with
  | none => rfl
  | some o => have := hs _ _ e; rw [F.offB] at this; cases this
end
end Mine

namespace Mine
open PySem.SeqAt PySem.MeetsSeq

/-- the text's statements; the function that the def at place i makes -/
abbrev pbody : List Stmt := PySem.Challenge.pw_dz0116_01.main.body
def fdOf (i : Nat) (pm code kwd : Value) : FuncData := match pbody[i]? with
  | some (.FunctionDef name args body _ _ _ scope _ _ _) => { name, qualname := name, params := args, body := .stmts body, scope, globals := mainGlobals, closure := [], defaults := .none, kwdefaults := kwd, pyModule := pm, code }
  | _ => default
def bodyOf (i : Nat) : List Stmt := match pbody[i]? with
  | some (.FunctionDef _ _ body _ _ _ _ _ _ _) => body
  | _ => []
abbrev pmT : Value := .str (Str.ofString "cpy313.typing") 187
abbrev pmL : Value := .str (Str.ofString "law_dz0116_01") 219
def fdDed : FuncData := fdOf 1 pmT (.ref 21) (.ref 15)
def fdUnh : FuncData := fdOf 2 pmT (.ref 28) .none
def fdCmp : FuncData := fdOf 3 pmT (.ref 35) .none
def fdThing : FuncData := fdOf 5 pmL (.ref 42) .none
def fdKind : FuncData := fdOf 6 pmL (.ref 49) .none
def fdRows : FuncData := fdOf 7 pmL (.ref 56) .none
def fdFirsts : FuncData := fdOf 8 pmL (.ref 63) .none
def fdSame : FuncData := fdOf 9 pmL (.ref 70) .none
def fdRef : FuncData := fdOf 10 pmL (.ref 77) .none
def ftab : List (Addr × FuncData) := [(22, fdDed), (29, fdUnh), (36, fdCmp), (43, fdThing), (50, fdKind), (57, fdRows), (64, fdFirsts), (71, fdSame), (78, fdRef)]
abbrev fnO (fd : FuncData) : Obj := { cls := .type "function", data := .func fd }
def gtab : List (Str × Addr) := [(Str.ofString "_deduplicate", 22), (Str.ofString "_deduplicate_unhashable", 29), (Str.ofString "_compare_args_orderless", 36), (Str.ofString "_law_thing", 43), (Str.ofString "_law_kind", 50),
  (Str.ofString "_law_rows", 57), (Str.ofString "_law_firsts", 64), (Str.ofString "_law_same", 71), (Str.ofString "_law_refused", 78)]
def bnames : List (Str × Value) := [(Str.ofString "len", .builtin "len"), (Str.ofString "max", .builtin "max"), (Str.ofString "sorted", .builtin "sorted"), (Str.ofString "type", .type "type"), (Str.ofString "list", .type "list"),
  (Str.ofString "dict", .type "dict"), (Str.ofString "enumerate", .type "enumerate"), (Str.ofString "zip", .type "zip"), (Str.ofString "TypeError", .type "TypeError"), (Str.ofString "ValueError", .type "ValueError")]

/-- what the top has left -/
structure Gnd (h : Heap) : Prop where
  names : ∃ mg mb, h.Ns mainGlobals mg ∧ h.Ns builtinsNs mb ∧ (∀ x a, gtab.lookup x = some a → mg x = some (.ref a)) ∧ (∀ x v, bnames.lookup x = some v → mg x = none ∧ mb x = some v)
  lim : h.NoLimit
  fn : ∀ a fd, ftab.lookup a = some fd → h.get? a = some (fnO fd) ∧ h.CodeRec fd.code fd.qualname
  kwd : ∃ hs t n, h.get? 15 = some { cls := .type "dict", data := .dict #[⟨hs, .str (Str.ofString "unhashable_fallback") t, .bool false⟩] n }

theorem Gnd.mono {h h' : Heap} (G : Gnd h) (hs : Sub h h') : Gnd h' := by
  obtain ⟨mg, mb, a, b, c, d⟩ := G.names
  obtain ⟨hs', t, n, e⟩ := G.kwd
  exact ⟨⟨mg, mb, a.keeps hs, b.keeps hs, c, d⟩, G.lim.keeps hs, fun a fd q => ⟨hs _ _ (G.fn a fd q).1, (G.fn a fd q).2.keeps hs⟩, hs', t, n, hs _ _ e⟩

theorem boots : ∀ x v, bnames.lookup x = some v → bootBuiltins x = some v := by
  intro x v h
  have hm : (x, v) ∈ bnames := by
    revert h
    generalize bnames = l
    induction l with
    | nil => intro h; cases h
    | cons p l ih =>
      intro h
      rw [List.lookup_cons] at h
      by_cases hx : (x == p.1) = true
      · simp only [hx] at h; cases h; rw [eq_of_beq hx]; exact .head _
      · simp only [hx] at h; exact .tail _ (ih h)
  simp only [bnames, List.mem_cons, List.mem_nil_iff, or_false, Prod.mk.injEq] at hm
  rcases hm with ⟨rfl, rfl⟩ | ⟨rfl, rfl⟩ | ⟨rfl, rfl⟩ | ⟨rfl, rfl⟩ | ⟨rfl, rfl⟩ | ⟨rfl, rfl⟩ | ⟨rfl, rfl⟩ | ⟨rfl, rfl⟩ | ⟨rfl, rfl⟩ | ⟨rfl, rfl⟩
  · exact PyProof.Rows.Boot.len
  · exact PyProof.Rows.Boot.max
  · exact PyProof.Rows.Boot.sorted
  · exact PyProof.Rows.Boot.type
  · exact PyProof.Rows.Boot.list
  · exact PyProof.Rows.Boot.dict
  · exact PyProof.Rows.Boot.enumerate
  · exact PyProof.Rows.Boot.zip
  · exact PyProof.Rows.Boot.TypeError
  · exact PyProof.Rows.Boot.ValueError

section
variable {prog : Program} {w : World} {A : Around} {E : Value → Shared → Prop} {s : Shared} {env : Env}

theorem ldG {x : Str} {pos : Pos} {a : Addr} {Q : Value → Shared → Prop} {S : Heap} (G : Gnd S) (hS : Sub S s.heap) (hx : gtab.lookup x = some a) (h : Q (.ref a) s)
    (hk : env.scope.kind = .function := by rfl) (hl : env.kindOf x = some .globalImplicit := by rfl) (hg : env.globals = mainGlobals := by rfl) (hd : (x == ("__debug__" : Str)) = false := by decide) :
    wpAny (model prog w) A (eval (.Name x pos) env) Q E s := by
  obtain ⟨mg, mb, n1, _, n3, _⟩ := G.names
  exact Calls.Name_function_global hk hl (Calls.loadGlobal_global (by rw [hg]; exact n1.keeps hS) (n3 x a hx) h) hd
theorem ldB {x : Str} {pos : Pos} {v : Value} {Q : Value → Shared → Prop} {S : Heap} (G : Gnd S) (hS : Sub S s.heap) (hx : bnames.lookup x = some v) (h : Q v s)
    (hk : env.scope.kind = .function := by rfl) (hl : env.kindOf x = some .globalImplicit := by rfl) (hg : env.globals = mainGlobals := by rfl) (hb : env.builtins = builtinsNs := by rfl) (hd : (x == ("__debug__" : Str)) = false := by decide) :
    wpAny (model prog w) A (eval (.Name x pos) env) Q E s := by
  obtain ⟨mg, mb, n1, n2, _, n4⟩ := G.names
  exact Calls.Name_function_global hk hl (Calls.loadGlobal_builtin (by rw [hg]; exact n1.keeps hS) (n4 x v hx).1 (by rw [hb]; exact n2.keeps hS) (n4 x v hx).2 h) hd

theorem ldL {S₀ : Heap} {s₀ : Shared} {B S : Heap} {L : Addr} {m : Str → Option Value} {x : Str} {pos : Pos} {v : Value} {Q : Value → Shared → Prop} (F : Frm S₀ s₀ B S L s m) (hv : m x = some v) (h : Q v s)
    (hk : env.scope.kind = .function := by rfl) (hl : env.kindOf x = some .local := by rfl) (hL : env.locals = L := by rfl) (hd : (x == ("__debug__" : Str)) = false := by decide) :
    wpAny (model prog w) A (eval (.Name x pos) env) Q E s := by
  subst hL
  exact wpAny_Name (wpAny_loadName_local hk hl F.ns hv h) hd

def upd (m : Str → Option Value) (x : Str) (v : Value) : Str → Option Value := fun y => if y = x then some v else m y
theorem upd_same (m : Str → Option Value) (x : Str) (v : Value) : upd m x v x = some v := if_pos rfl
theorem upd_ne (m : Str → Option Value) {x y : Str} (v : Value) (h : y ≠ x) : upd m x v y = m y := if_neg h

theorem stL {S₀ : Heap} {s₀ : Shared} {B S : Heap} {L : Addr} {m : Str → Option Value} {x : Str} {v : Value} {Q : Unit → Shared → Prop} (F : Frm S₀ s₀ B S L s m)
    (h : ∀ h', Frm S₀ s₀ B S L { s with heap := h', toks := s.toks + 1 } (upd m x v) → (∀ b, b ≠ L → h'.get? b = s.heap.get? b) → Q () { s with heap := h', toks := s.toks + 1 })
    (hk : env.scope.kind = .function := by rfl) (hl : env.kindOf x = some .local := by rfl) (hL : env.locals = L := by rfl) :
    wpAny (model prog w) A (storeName env x v) Q E s := by
  subst hL
  exact wpAny_storeName_local hl F.ns (fun h' hn hs => h h' (F.set hn hs _) hs.2) (by rw [hk]; rfl)

/-- a call of one of the text's functions -/
theorem call_fn {S : Heap} {a : Addr} {fd : FuncData} {args : List Value} {kw : List (Str × Value)} {binds : List (Str × Value)} {Q : Value → Shared → Prop} (G : Gnd S) (hS : Sub S s.heap) (hf : ftab.lookup a = some fd)
    {body : List Stmt} (hb : fd.body = .stmts body) (hroom : A.depth < recursionLimit) (hbind : BindsTo s fd ⟨args, kw⟩ binds) (hloc : ∀ x ∈ binds, fd.scope.names.lookup x.1 = some .local)
    (h : ∀ s₁, Frm S s s.heap S s.heap.objs.size s₁ (fun x => binds.reverse.lookup x) →
      wpAny (model prog w) (A.deeper (callEnv fd s.heap.objs.size a)) (execs body (callEnv fd s.heap.objs.size a)) (fun f s' => Q (match f with | .ret v => v | _ => .none) s')
        (fun e s' => wpAny (model prog w) (A.deeper (callEnv fd s.heap.objs.size a)) (leaving (callEnv fd s.heap.objs.size a) e) (fun _ s'' => E e s'') (fun e' s'' => E e' s'') s') s₁)
    (hcell : ∀ x ∈ fd.scope.names, x.2 ≠ .cell := by decide) (hco : fd.scope.isCoroutine = false := by rfl) (hgen : fd.scope.isGenerator = false := by rfl) (hk : fd.scope.kind = .function := by rfl) :
    wpAny (model prog w) A (call (.ref a) args kw) Q E s := by
  obtain ⟨ho, hcd⟩ := G.fn a fd hf
  refine wpAny_call (codeAny_call_def hroom (hS _ _ ho) rfl (G.lim.keeps hS) (hcd.keeps hS) hb hbind hcell hloc (fun h₀ hn hk₀ => ?_) hco hgen hk)
  exact h _ ⟨⟨h₀, _, rfl⟩, fun _ _ e => e, hk₀, fun _ _ e => e, fun b o e => hk₀ b o (hS b o e), fun _ _ _ => rfl, hn, push_none _, get?_none_of_size hS (Nat.le_refl _)⟩
end
end Mine

namespace Mine
open PySem.SeqAt PySem.MeetsSeq

theorem Frm.holdAll {S₀ : Heap} {s₀ : Shared} {B S : Heap} {L : Addr} {s : Shared} {m : Str → Option Value} (F : Frm S₀ s₀ B S L s m) (W : List Addr) (hW : ∀ a ∈ W, Own S₀ B S L a) :
    ∃ B', Frm S₀ s₀ B' S L s m ∧ Sub B B' ∧ (∀ a ∈ W, B'.get? a = s.heap.get? a) ∧ ∀ b, b ∉ W → B'.get? b = B.get? b := by
  have hne : ∀ b o', B.get? b = some o' → b ∉ W := fun b o' e q => by rw [(hW b q).offB] at e; cases e
  have hg : ∀ b, (pick s.heap fun b => (B.get? b).isSome || W.contains b).get? b = if b ∈ W then s.heap.get? b else B.get? b := fun b => by
    rw [pick_get]
    by_cases hb : b ∈ W
    · simp [hb]
    · simp only [hb, if_false]
      cases e : B.get? b with
      | none => simp [hb]
      | some o' => simp [F.keep b o' e]
  refine ⟨pick s.heap fun b => (B.get? b).isSome || W.contains b, ⟨F.st, fun b o' e => ?_, fun b o' e => ?_, F.le, F.sub, fun b o' e => ?_, F.ns, ?_, F.off⟩, fun b o' e => ?_, fun b hb => ?_, fun b hb => ?_⟩
  · rw [hg, if_neg (hne b o' (F.base b o' e))]; exact F.base b o' e
  · rw [pick_get] at e; split at e
    · exact e
    · cases e
  · rw [hg] at e
    by_cases hb : b ∈ W
    · rw [(hW b hb).off, (hW b hb).off0]
    · rw [if_neg hb] at e; exact F.new b o' e
  · rw [hg, if_neg (fun q => (hW L q).ne rfl)]; exact F.offB
  · rw [hg, if_neg (hne b o' e)]; exact e
  · rw [hg, if_pos hb]
  · rw [hg, if_neg hb]

theorem Own.mono_B {S₀ B B' S : Heap} {L a : Addr} (O : Own S₀ B' S L a) (hs : Sub B B') : Own S₀ B S L a := by
  refine ⟨?_, O.off, O.off0, O.ne⟩
  cases e : B.get? a with
  | none => rfl
  | some o => have := hs _ _ e; rw [O.offB] at this; cases this

section
variable {prog : Program} {w : World} {A : Around} {R : Result → Shared → Prop}

/-- a for loop, by an invariant; the iterator's objects are W, the frame's own ones fp -/
theorem for_gen {S₀ : Heap} {s₀ : Shared} {B S : Heap} {L : Addr} {s : Shared} {m : Str → Option Value} {env : Env} {target : Expr} {it : Value} {body : List Stmt} (F : Frm S₀ s₀ B S L s m)
    (W fp : List Addr) (n : Nat) (St : Nat → Heap → Prop) (Vars : Nat → (Str → Option Value) → (Str → Option Value) → Prop) (J : Nat → Heap → Heap → (Str → Option Value) → Prop)
    (hst : St 0 s.heap) (hW : ∀ b ∈ W, Own S₀ B S L b) (hWex : ∀ i h, St i h → ∀ b ∈ W, ∃ o, h.get? b = some o)
    (hframe : ∀ i h h', St i h → (∀ b ∈ W, ∀ o, h.get? b = some o → h'.get? b = some o) → Sub S h' → St i h')
    (item : ∀ i S₁ s₁ m₁ (Q : Unit → Shared → Prop) (E : Value → Shared → Prop), i < n → Sub S S₁ → Frm S₀ s₀ B S₁ L s₁ m₁ → (∀ b ∈ W, Own S₀ B S₁ L b) → St i s₁.heap →
      (∀ s₂ m₂, Frm S₀ s₀ B S₁ L s₂ m₂ → Vars i m₁ m₂ → St (i + 1) s₂.heap → (∀ b o, b ∉ W → b ≠ L → s₁.heap.get? b = some o → s₂.heap.get? b = some o) → Q () s₂) →
      wpAny (model prog w) A (pyNext it) (fun r s₂ => match r with | none => False | some v => wpAny (model prog w) A (letOwnedTupleGo target it v) (fun _ s₃ => wpAny (model prog w) A (assign target env v) Q E s₃) E s₂) E s₁)
    (done : ∀ S₁ s₁ m₁ (Q : Option Value → Shared → Prop) (E : Value → Shared → Prop), Sub S S₁ → Frm S₀ s₀ B S₁ L s₁ m₁ → (∀ b ∈ W, Own S₀ B S₁ L b) → St n s₁.heap →
      (∀ s₂, Frm S₀ s₀ B S₁ L s₂ m₁ → (∀ b o, b ∉ W → s₁.heap.get? b = some o → s₂.heap.get? b = some o) → Q none s₂) → wpAny (model prog w) A (pyNext it) Q E s₁)
    (hJ : J 0 S s.heap m) (hJf : ∀ i S h h' m, J i S h m → (∀ b ∈ fp, ∀ o, h.get? b = some o → h'.get? b = some o) → J i S h' m)
    (hfp : ∀ a ∈ fp, Own S₀ B S L a ∧ a ∉ W)
    (turn : ∀ i B₁ S₁ s₁ m₁ m₂, i < n → Sub S S₁ → Frm S₀ s₀ B₁ S₁ L s₁ m₂ → Vars i m₁ m₂ → J i S₁ s₁.heap m₁ → (∀ a ∈ fp, Own S₀ B₁ S₁ L a) →
      wpAny (model prog w) A (execs body env) (fun f s₂ => match f with
        | .next | .cont => ∃ S₂ m₃, Sub S₁ S₂ ∧ Frm S₀ s₀ B₁ S₂ L s₂ m₃ ∧ J (i + 1) S₂ s₂.heap m₃ ∧ ∀ a ∈ fp, Own S₀ B₁ S₂ L a
        | .brk => R (.ok .next) s₂
        | .ret v => R (.ok (.ret v)) s₂) (notedBy (model prog w) A env fun e s' => R (.error e) s') s₁)
    (fin : ∀ S₁ s₁ m₁, Sub S S₁ → Frm S₀ s₀ B S₁ L s₁ m₁ → J n S₁ s₁.heap m₁ → (∀ a ∈ fp, Own S₀ B S₁ L a) → R (.ok .next) s₁) :
    codeAny (model prog w) A (.forLoop target it body [] env) R s := by
  let Inv : Nat → Shared → Prop := fun k s' => ∃ i S₁ m₁, i ≤ n ∧ k = n + 1 - i ∧ Sub S S₁ ∧ Frm S₀ s₀ B S₁ L s' m₁ ∧ (∀ b ∈ W, Own S₀ B S₁ L b) ∧ St i s'.heap ∧ J i S₁ s'.heap m₁ ∧ ∀ a ∈ fp, Own S₀ B S₁ L a
  refine codeAny_forLoop_any Inv ?_ (n + 1)
    ⟨0, S, m, Nat.zero_le _, rfl, fun _ _ e => e, F, hW, hst, hJ, fun a ha => (hfp a ha).1⟩
  rintro k s₁ ⟨i, S₁, m₁, hi, rfl, hSS, F₁, hW₁, hst₁, hJ₁, hfp₁⟩
  by_cases hlt : i < n
  · refine wpAny_mono (item i S₁ s₁ m₁ (fun _ s₂ => wpAny (model prog w) A (execs body env) (fun f s₃ => match f with
          | .next | .cont => ∃ m, m < n + 1 - i ∧ Inv m s₃
          | .brk => R (.ok .next) s₃
          | .ret v => R (.ok (.ret v)) s₃) (notedBy (model prog w) A env fun e s' => R (.error e) s') s₂) _ hlt hSS F₁ hW₁ hst₁ (fun s₂ m₂ F₂ hV hst₂ hk₂ => ?_)) (fun r s₂ h => ?_) fun _ _ e => e
    rotate_left
    · cases r with
      | none => exact h.elim
      | some v => exact h
    · obtain ⟨B₁, F₃, hBB, hBW, hBo⟩ := F₂.holdAll W hW₁
      have hJ₂ : J i S₁ s₂.heap m₁ := hJf i S₁ s₁.heap s₂.heap m₁ hJ₁ fun b hb o e => hk₂ b o (hfp b hb).2 (hfp₁ b hb).ne e
      refine wpAny_mono (turn i B₁ S₁ s₂ m₁ m₂ hlt hSS F₃ hV hJ₂ fun a ha => ⟨(hBo a (hfp a ha).2).trans (hfp₁ a ha).offB, (hfp₁ a ha).off, (hfp₁ a ha).off0, (hfp₁ a ha).ne⟩) (fun f s₃ h => ?_) fun _ _ e => e
      have key : (∃ S₂ m₃, Sub S₁ S₂ ∧ Frm S₀ s₀ B₁ S₂ L s₃ m₃ ∧ J (i + 1) S₂ s₃.heap m₃ ∧ ∀ a ∈ fp, Own S₀ B₁ S₂ L a) → ∃ mm, mm < n + 1 - i ∧ Inv mm s₃ := by
        rintro ⟨S₂, m₃, hs, F₄, hJ₄, hO₄⟩
        have hkW : ∀ b ∈ W, ∀ o, s₂.heap.get? b = some o → s₃.heap.get? b = some o := fun b hb o e => F₄.keep b o ((hBW b hb).trans e)
        refine ⟨n + 1 - (i + 1), by omega, i + 1, S₂, m₃, hlt, rfl, fun b o e => hs b o (hSS b o e), F₄.unhold F₁.base hBB, fun b hb => ?_, ?_, hJ₄, fun a ha => (hO₄ a ha).mono_B hBB⟩
        · obtain ⟨o, ho⟩ := hWex (i + 1) s₂.heap hst₂ b hb
          exact ⟨(hW₁ b hb).offB, (F₄.new b o ((hBW b hb).trans ho)).trans (hW₁ b hb).off0, (hW₁ b hb).off0, (hW₁ b hb).ne⟩
        · exact hframe (i + 1) s₂.heap s₃.heap hst₂ hkW fun b o e => F₄.sub b o (hs b o (hSS b o e))
      cases f with
      | next => exact key h
      | cont => exact key h
      | brk => exact h
      | ret v => exact h
  · have hin : i = n := by omega
    subst hin
    refine done S₁ s₁ m₁ _ _ hSS F₁ hW₁ hst₁ fun s₂ F₂ hk₂ => ?_
    exact wpAny_execs_nil (fin S₁ s₂ m₁ hSS F₂ (hJf i S₁ s₁.heap s₂.heap m₁ hJ₁ fun b hb o e => hk₂ b o (hfp b hb).2 e) hfp₁)
end
end Mine

namespace Mine
open PySem.SeqAt PySem.MeetsSeq

/-- a list's iterator comes to its end -/
def StopOk (prog : Program) (w : World) (A : Around) (S : Heap) : Prop :=
  ∀ (s : Shared) (it l : Addr) (i : Nat) (items : Array Value) (Q : Option Value → Shared → Prop) (E : Value → Shared → Prop), Sub S s.heap → s.heap.IsListIter it l i → s.heap.IsList l items → items[i]? = none →
    (∀ h' tk, Heap.ExtBut it s.heap h' → Q none { s with heap := h', toks := tk }) → wpAny (model prog w) A (pyNext (.ref it)) Q E s
theorem StopOk.mono {prog : Program} {w : World} {A : Around} {S S' : Heap} (x : StopOk prog w A S) (hs : Sub S S') : StopOk prog w A S' :=
  fun s it l i items Q E h => x s it l i items Q E fun b o e => h b o (hs b o e)
theorem stop_none {prog : Program} {w : World} {A : Around} {S : Heap} (hh : A.handled = none) : StopOk prog w A S :=
  fun s _ _ _ _ _ _ _ hit hl hx hQ => wpAny_pyNext_list_end hh hit hl hx fun h' he => hQ h' s.toks he

theorem isList_sub {h h' : Heap} {a : Addr} {items : Array Value} (x : h.IsList a items) (hs : Sub h h') : h'.IsList a items := x.at fun o e => hs _ o e

section
variable {prog : Program} {w : World} {A : Around} {E : Value → Shared → Prop} {R : Result → Shared → Prop}

theorem for_list {S₀ : Heap} {s₀ : Shared} {B S : Heap} {L : Addr} {s : Shared} {m : Str → Option Value} {env : Env} {x : Str} {px : Pos} {body : List Stmt} {l : Addr} {items : Array Value} (F : Frm S₀ s₀ B S L s m)
    (stop : StopOk prog w A S) (hl : S.IsList l items) (fp : List Addr) (J : Nat → Heap → Heap → (Str → Option Value) → Prop)
    (hJ : J 0 S s.heap m) (hJf : ∀ i S h h' m, J i S h m → (∀ b ∈ fp, ∀ o, h.get? b = some o → h'.get? b = some o) → J i S h' m)
    (hfp : ∀ a ∈ fp, Own S₀ B S L a ∧ ∃ o, s.heap.get? a = some o)
    (turn : ∀ i B₁ S₁ s₁ m₁ v, items[i]? = some v → Sub S S₁ → Frm S₀ s₀ B₁ S₁ L s₁ (upd m₁ x v) → J i S₁ s₁.heap m₁ → (∀ a ∈ fp, Own S₀ B₁ S₁ L a) →
      wpAny (model prog w) A (execs body env) (fun f s₂ => match f with
        | .next | .cont => ∃ S₂ m₃, Sub S₁ S₂ ∧ Frm S₀ s₀ B₁ S₂ L s₂ m₃ ∧ J (i + 1) S₂ s₂.heap m₃ ∧ ∀ a ∈ fp, Own S₀ B₁ S₂ L a
        | .brk => R (.ok .next) s₂
        | .ret v => R (.ok (.ret v)) s₂) (notedBy (model prog w) A env fun e s' => R (.error e) s') s₁)
    (fin : ∀ S₁ s₁ m₁, Sub S S₁ → Frm S₀ s₀ B S₁ L s₁ m₁ → J items.size S₁ s₁.heap m₁ → (∀ a ∈ fp, Own S₀ B S₁ L a) → R (.ok .next) s₁)
    (hk : env.scope.kind = .function := by rfl) (hx : env.kindOf x = some .local := by rfl) (hL : env.locals = L := by rfl) :
    wpAny (model prog w) A (pyIter (.ref l)) (fun it s₂ => codeAny (model prog w) A (.forLoop (.Name x px) it body [] env) R s₂) E s := by
  refine wpAny_pyIter_list (isList_sub hl F.sub) ?_
  have hsz := push_none s.heap
  have F' := F.grow (h' := s.heap.push { cls := .type "list_iterator", data := .fields #[.ref l, .int 0 0] }) (fun _ _ e => Heap.get?_push_of_some _ e) s.toks
  have OI := F.fresh hsz
  have hlI : l ≠ s.heap.objs.size := by
    rintro rfl
    obtain ⟨o, ho, _⟩ := isList_sub hl F.sub
    rw [hsz] at ho; cases ho
  refine for_gen F' [s.heap.objs.size] fp items.size (fun i h => h.IsListIter s.heap.objs.size l i ∧ h.IsList l items) (fun i m₁ m₂ => ∃ v, items[i]? = some v ∧ m₂ = upd m₁ x v) J
    ⟨⟨_, Heap.get?_push_size _ rfl, rfl, rfl⟩, isList_sub (isList_sub hl F.sub) fun _ _ e => Heap.get?_push_of_some _ e⟩
    (fun b hb => by rw [List.mem_singleton.mp hb]; exact OI)
    (fun i h hs b hb => by rw [List.mem_singleton.mp hb]; obtain ⟨o, ho, _⟩ := hs.1; exact ⟨o, ho⟩)
    (fun i h h' hs hk hS => ⟨hs.1.at fun o e => hk _ (by simp) o e, isList_sub hl hS⟩) ?_ ?_
    (hJf _ _ _ _ _ hJ fun b _ o e => Heap.get?_push_of_some _ e) hJf (fun a ha => ⟨(hfp a ha).1, ?_⟩) ?_ fin
  · intro i S₁ s₁ m₁ Q E' hi hSS F₁ hW hs hQ
    have hv : items[i]? = some items[i] := by simp [hi]
    refine wpAny_pyNext_list_item hs.1 hs.2 hv fun h₁ hit₁ hs₁ => ?_
    show wpAny _ _ (letOwnedTupleGo (.Name x px) _ _) _ _ _
    refine wpAny_of_eq (a := ()) rfl ?_
    have F₂ := F₁.upd (hW _ (by simp)) hs₁.extBut s₁.toks
    refine wpAny_assign_Name (stL F₂ (fun h₂ F₃ hk₂ => ?_) hk hx hL)
    have hIL : s.heap.objs.size ≠ L := OI.ne
    refine hQ _ _ F₃ ⟨_, hv, rfl⟩ ⟨hit₁.at fun o e => (hk₂ _ hIL).trans e, isList_sub hl fun b o e => F₃.sub b o (hSS b o e)⟩ fun b o hb hbL e => (hk₂ b hbL).trans (hs₁.extBut b o (fun q => hb (by simp [q])) e)
  · intro S₁ s₁ m₁ Q E' hSS F₁ hW hs hQ
    refine (stop.mono hSS) s₁ _ l items.size items Q E' F₁.sub hs.1 hs.2 (by simp) fun h' tk he => ?_
    exact hQ _ (F₁.upd (hW _ (by simp)) he tk) fun b o hb e => he b o (fun q => hb (by simp [q])) e
  · intro q
    obtain ⟨o, ho⟩ := (hfp a ha).2
    rw [List.mem_singleton.mp q, hsz] at ho; cases ho
  · rintro i B₁ S₁ s₁ m₁ m₂ hi hSS F₁ ⟨v, hv, rfl⟩ hJ₁ hO₁
    exact turn i B₁ S₁ s₁ m₁ v hv hSS F₁ hJ₁ hO₁
end
end Mine

namespace Mine

/-- the places where a number stands first -/
def fpl (ks : List Nat) : List Nat := (List.range ks.length).filter fun p => !((ks.take p).contains (ks.getD p 0))
/-- the numbers, each once -/
def dk (ks : List Nat) : List Nat := (fpl ks).map fun p => ks.getD p 0

theorem getD_app {ks js : List Nat} {p : Nat} (h : p < ks.length) : (ks ++ js).getD p 0 = ks.getD p 0 := by
  simp [List.getD, List.getElem?_append_left h]
theorem fpl_nil : fpl [] = [] := rfl
theorem fpl_snoc (ks : List Nat) (k : Nat) : fpl (ks ++ [k]) = fpl ks ++ (if ks.contains k then [] else [ks.length]) := by
  unfold fpl
  rw [List.length_append, List.length_singleton, List.range_succ, List.filter_append]
  congr 1
  · refine List.filter_congr fun p hp => ?_
    have hp' : p < ks.length := List.mem_range.mp hp
    rw [List.take_append_of_le_length (Nat.le_of_lt hp'), getD_app hp']
  · have e1 : (ks ++ [k]).take ks.length = ks := by simp
    have e2 : (ks ++ [k]).getD ks.length 0 = k := by simp [List.getD]
    rw [List.filter_cons, List.filter_nil, e1, e2]
    cases ks.contains k <;> rfl
theorem fpl_lt {ks : List Nat} {p : Nat} (h : p ∈ fpl ks) : p < ks.length := List.mem_range.mp (List.mem_filter.mp h).1
theorem dk_nil : dk [] = [] := rfl
theorem dk_snoc (ks : List Nat) (k : Nat) : dk (ks ++ [k]) = dk ks ++ (if ks.contains k then [] else [k]) := by
  unfold dk
  rw [fpl_snoc, List.map_append]
  congr 1
  · refine List.map_congr_left fun p hp => ?_
    rw [getD_app (fpl_lt hp)]
  · cases ks.contains k with
    | true => rfl
    | false => simp [List.getD]

theorem snoc_ind {P : List Nat → Prop} (h0 : P []) (h1 : ∀ ks k, P ks → P (ks ++ [k])) : ∀ ks, P ks := fun ks => by
  have : ∀ n (ks : List Nat), ks.length = n → P ks := by
    intro n
    induction n with
    | zero => intro ks h; rw [List.length_eq_zero_iff.mp h]; exact h0
    | succ n ih =>
      intro ks h
      have hne : ks ≠ [] := by rintro rfl; cases h
      rw [← List.dropLast_concat_getLast hne]
      exact h1 _ _ (ih _ (by simp [h]))
  exact this _ ks rfl

theorem mem_dk (ks : List Nat) : ∀ k, k ∈ dk ks ↔ k ∈ ks := by
  refine snoc_ind (P := fun ks => ∀ k, k ∈ dk ks ↔ k ∈ ks) (fun k => by simp [dk_nil]) (fun ks j ih k => ?_) ks
  rw [dk_snoc, List.mem_append, List.mem_append, ih k]
  cases hc : ks.contains j with
  | true =>
    have : j ∈ ks := by simpa using hc
    simp only [if_true, List.not_mem_nil, or_false, List.mem_singleton]
    constructor
    · exact .inl
    · rintro (h | rfl)
      · exact h
      · exact this
  | false => simp

theorem nodup_dk (ks : List Nat) : (dk ks).Nodup := by
  refine snoc_ind (P := fun ks => (dk ks).Nodup) (by simp [dk_nil]) (fun ks j ih => ?_) ks
  rw [dk_snoc]
  cases hc : ks.contains j with
  | true => simpa using ih
  | false =>
    have hj : j ∉ ks := by simpa using hc
    simp only [Bool.false_eq_true, if_false]
    rw [List.nodup_append]
    refine ⟨ih, by simp, fun a ha b hb => ?_⟩
    rw [List.mem_singleton.mp hb]
    rintro rfl
    exact hj ((mem_dk ks _).mp ha)

theorem any_fpl (ks : List Nat) (k : Nat) : (fpl ks).any (fun p => ks.getD p 0 == k) = ks.contains k := by
  have := mem_dk ks k
  unfold dk at this
  rw [Bool.eq_iff_iff]
  simp only [List.any_eq_true, beq_iff_eq, List.contains_iff_mem]
  rw [← this, List.mem_map]
end Mine

namespace Mine
open PySem.SeqAt PySem.MeetsSeq

theorem TAt.unique {h : Heap} {v : Value} {i j : Nat} (x : TAt h v i) (y : TAt h v j) : i = j := by
  cases x <;> cases y <;> first | rfl | (exfalso; simp_all; done)

open Classical in
noncomputable def numOf (h : Heap) (v : Value) : Nat := if x : ∃ k, TAt h v k then x.choose else 0
theorem numOf_eq {h : Heap} {v : Value} {k : Nat} (x : TAt h v k) : numOf h v = k := by
  have hx : ∃ k, TAt h v k := ⟨k, x⟩
  unfold numOf
  rw [dif_pos hx]
  exact hx.choose_spec.unique x

/-- the values vs are the things of the numbers ks -/
def Ths (h : Heap) (vs : List Value) (ks : List Nat) : Prop := vs.length = ks.length ∧ ∀ (i : Nat) (v : Value) (k : Nat), vs[i]? = some v → ks[i]? = some k → TAt h v k
theorem Ths.mono {h h' : Heap} {vs : List Value} {ks : List Nat} (x : Ths h vs ks) (hs : Sub h h') : Ths h' vs ks := ⟨x.1, fun i v k a b => (x.2 i v k a b).mono hs⟩
theorem Ths.get {h : Heap} {vs : List Value} {ks : List Nat} (x : Ths h vs ks) {i : Nat} {v : Value} (hv : vs[i]? = some v) : ∃ k, ks[i]? = some k ∧ TAt h v k := by
  have hi : i < vs.length := by
    rcases Nat.lt_or_ge i vs.length with q | q
    · exact q
    · rw [List.getElem?_eq_none q] at hv; cases hv
  have hi' : i < ks.length := x.1 ▸ hi
  exact ⟨ks[i], by simp [hi'], x.2 i v _ hv (by simp [hi'])⟩
theorem Ths.at {h : Heap} {vs : List Value} {ks : List Nat} (x : Ths h vs ks) {i : Nat} (hi : i < vs.length) : TAt h (vs.getD i .none) (ks.getD i 0) := by
  have hi' : i < ks.length := x.1 ▸ hi
  exact x.2 i _ _ (by simp [List.getD, hi]) (by simp [List.getD, hi'])

/-- what the things' numbers make of the places: the kinds -/
abbrev kinds (ks : List Nat) : List Nat := ks.map kindT
/-- the first of each kind -/
def dedV (vs : List Value) (ks : List Nat) : List Value := (fpl (kinds ks)).map fun p => vs.getD p .none

theorem dedV_mem {h : Heap} {vs : List Value} {ks : List Nat} (x : Ths h vs ks) {n : Nat} {v : Value} (hv : v ∈ (fpl (kinds (ks.take n))).map fun p => vs.getD p .none) : ∃ p, p < n ∧ p < vs.length ∧ p ∈ fpl (kinds (ks.take n)) ∧ v = vs.getD p .none := by
  obtain ⟨p, hp, rfl⟩ := List.mem_map.mp hv
  have := fpl_lt hp
  simp only [kinds, List.length_map, List.length_take] at this
  exact ⟨p, by omega, by have := x.1; omega, hp, rfl⟩

theorem take_snoc {α : Type} {l : List α} {i : Nat} {v : α} (h : l[i]? = some v) : l.take (i + 1) = l.take i ++ [v] := by
  rw [List.take_add_one, h]; rfl

theorem kinds_getD (ks : List Nat) {p : Nat} (hp : p < ks.length) : (kinds ks).getD p 0 = kindT (ks.getD p 0) := by
  simp [kinds, List.getD, hp]

/-- the test «in» over what is kept -/
theorem any_kept {h : Heap} {vs : List Value} {ks : List Nat} (x : Ths h vs ks) (i : Nat) (k : Nat) (hi : i ≤ ks.length) :
    (((fpl (kinds (ks.take i))).map fun p => vs.getD p .none).toArray.any fun y => kindT (numOf h y) == kindT k) = (kinds (ks.take i)).contains (kindT k) := by
  rw [← any_fpl]
  rw [List.any_toArray, List.any_map]
  rw [Bool.eq_iff_iff, List.any_eq_true, List.any_eq_true]
  refine exists_congr fun p => and_congr_right fun hp => ?_
  have hlt := fpl_lt hp
  simp only [kinds, List.length_map, List.length_take] at hlt
  have hpv : p < vs.length := by have := x.1; omega
  have e1 := numOf_eq (x.at hpv)
  have e2 : (kinds (ks.take i)).getD p 0 = kindT (ks.getD p 0) := by
    rw [kinds_getD _ (by simp only [List.length_take]; omega)]
    have : (ks.take i).getD p 0 = ks.getD p 0 := by simp [List.getD, List.getElem?_take, (by omega : p < i)]
    rw [this]
  simp only [Function.comp, e1, e2]

end Mine

namespace Mine
open PySem.SeqAt PySem.MeetsSeq

theorem plain_no_dict {h : Heap} {a : Addr} {items : Array Value} (x : h.PlainList a items) : h.NoDictAt (.ref a) := let ⟨_, e⟩ := x; ⟨_, e, rfl⟩
theorem plain_sub {h h' : Heap} {a : Addr} {items : Array Value} (x : h.PlainList a items) (hs : Sub h h') : h'.PlainList a items := x.at fun o e => hs _ o e

section
variable {prog : Program} {w : World} {A : Around} {E : Value → Shared → Prop} {s : Shared} {env : Env}

/-- the statement «x.append(e)» -/
theorem exec_append {S₀ : Heap} {s₀ : Shared} {B S : Heap} {L : Addr} {m : Str → Option Value} {x : Str} {px ap cp sp : Pos} {e : Expr} {a : Addr} {xs : Array Value} {pl : Sem Bool} {Q : Flow → Shared → Prop}
    (F : Frm S₀ s₀ B S L s m) (hv : m x = some (.ref a)) (hpl : s.heap.PlainList a xs) (hsz : xs.size ≤ 1000)
    (h : wpAny (model prog w) A (eval e env) (fun v s₁ => ∃ S₁, Frm S₀ s₀ B S₁ L s₁ m ∧ Own S₀ B S₁ L a ∧ s₁.heap.PlainList a xs ∧
      ∀ h', Frm S₀ s₀ B S₁ L { s₁ with heap := h' } m → h'.PlainList a (xs.push v) → (∀ b, b ≠ a → h'.get? b = s₁.heap.get? b) → Q .next { s₁ with heap := h' }) E s)
    (hk : env.scope.kind = .function := by rfl) (hl : env.kindOf x = some .local := by rfl) (hL : env.locals = L := by rfl) (hd : (x == ("__debug__" : Str)) = false := by decide)
    (hi : interactive env = false := by rfl) (hs : swapsWith (.Call (.Attribute (.Name x px) (Str.ofString "append") ap) [e] [] cp) none sp.line env = pure false := by rfl)
    (hstar : starEach [e] env = (false, eval e env) :: starEach [] env := by rfl)
    (hm : eval (.Call (.Attribute (.Name x px) (Str.ofString "append") ap) [e] [] cp) env = (do
          let ov ← eval (.Name x px) env
          standAt ap.atName
          let (f, first) ← holding [ov] (getMethod ov (Str.ofString "append") pl)
          callWith cp f first (backTo cp (starEach [e] env)) []) := by rfl) :
    wpAny (model prog w) A (exec (.Expr (.Call (.Attribute (.Name x px) (Str.ofString "append") ap) [e] [] cp) sp) env) Q E s := by
  refine wpAny_Expr_any (MethodCall_ (ldL F hv ?_ hk hl hL hd) hm) hi hs
  refine getMethod_list_of PySem.F.slot_list_append PySem.F.type_list_append hpl.isList (plain_no_dict hpl) ?_
  refine callWith_method1 (spliced_more (wpAny_mono h (fun v s₁ h₁ => spliced_none ?_) fun _ _ x => x) hstar) hstar rfl
  obtain ⟨S₁, F₁, O₁, hpl₁, h₁⟩ := h₁
  refine wpAny_list_append_plain (hsz := by unfold sizeLine; omega) hpl₁ fun h' hpl' hs' => ?_
  exact h₁ h' (F₁.upd O₁ hs'.extBut s₁.toks) hpl' hs'.2
end

abbrev xUP : Str := Str.ofString "unhashable_params"
abbrev xNU : Str := Str.ofString "new_unhashable"
abbrev xT : Str := Str.ofString "t"

section
variable {prog : Program} {w : World} {A : Around} {E : Value → Shared → Prop} {s : Shared}

theorem dedV_take_snoc {vs : List Value} {ks : List Nat} {i : Nat} {k : Nat} (hk : ks[i]? = some k) (hi : i ≤ ks.length) :
    ((fpl (kinds (ks.take (i + 1)))).map fun p => vs.getD p .none) = ((fpl (kinds (ks.take i))).map fun p => vs.getD p .none) ++ (if (kinds (ks.take i)).contains (kindT k) then [] else [vs.getD i .none]) := by
  rw [take_snoc hk]
  simp only [kinds, List.map_append, List.map_cons, List.map_nil]
  rw [fpl_snoc, List.map_append]
  congr 1
  split
  · rfl
  · simp [List.length_take, Nat.min_eq_left hi]

set_option maxHeartbeats 1000000 in
theorem unh_spec {S : Heap} {l : Addr} {vs : List Value} {ks : List Nat} {Q : Value → Shared → Prop} (G : Gnd S) (hS : Sub S s.heap) (hl : S.PlainList l vs.toArray) (ht : Ths S vs ks) (hlen : vs.length ≤ 1000)
    (stop : ∀ env, StopOk prog w (A.deeper env) S) (hdep : A.depth < recursionLimit) (hu : A.units + 20 < cLine)
    (h : ∀ S' s' a, Ext S s S' s' → S'.PlainList a (dedV vs ks).toArray → Q (.ref a) s') :
    wpAny (model prog w) A (call (.ref 29) [.ref l]) Q E s := by
  refine call_fn (fd := fdUnh) (body := bodyOf 2) (binds := [(xUP, .ref l)]) G hS rfl rfl hdep (BindsTo.of_eq rfl) (locs rfl) ?_
  intro s₁ F
  refine wpAny_execs_cons (wpAny_Assign_Name (List_ (spliced_none (wpAny_newObj_type ?_))))
  have hsz := push_none s₁.heap
  generalize ha : s₁.heap.objs.size = a at hsz
  have F1 := F.grow (h' := s₁.heap.push { cls := .type "list", data := .seq ([] : List Value).toArray }) (fun _ _ e => Heap.get?_push_of_some _ e) s₁.toks
  have O1 := F.fresh hsz
  have hp1 : (s₁.heap.push { cls := .type "list", data := .seq ([] : List Value).toArray }).PlainList a #[] := ⟨0, by rw [← ha]; exact Heap.get?_push_size _ rfl⟩
  refine stL F1 (fun h₂ F₂ hk₂ => ?_)
  have hp2 : h₂.PlainList a #[] := hp1.at fun o e => (hk₂ a O1.ne).trans e
  refine wpAny_execs_cons (wpAny_For (ldL F₂ (v := .ref l) rfl ?_))
  refine for_list F₂ (stop _) hl.isList [a] (fun i S h m => m xNU = some (.ref a) ∧ h.PlainList a ((fpl (kinds (ks.take i))).map fun p => vs.getD p .none).toArray) ⟨rfl, by simpa [fpl_nil] using hp2⟩
    (fun i S h h' m hj hk => ⟨hj.1, hj.2.at fun o e => hk a (by simp) o e⟩) (fun b hb => by rw [List.mem_singleton.mp hb]; obtain ⟨n, e⟩ := hp2; exact ⟨O1, _, e⟩) ?_ ?_
  · intro i B₁ S₁ s₂ m₁ v hv hSS F₃ hJ hO
    have O₃ := hO a (by simp)
    obtain ⟨k, hk, hT⟩ := (ht.mono hSS).get (by simpa using hv)
    have hi : i < ks.length := by
      rcases Nat.lt_or_ge i ks.length with q | q
      · exact q
      · rw [List.getElem?_eq_none q] at hk; cases hk
    have hv' : vs.getD i .none = v := by
      have : vs[i]? = some v := by simpa using hv
      simp [List.getD, this]
    have hsmall : ((fpl (kinds (ks.take i))).map fun p => vs.getD p .none).length ≤ 1000 := by
      have h1 : (fpl (kinds (ks.take i))).length ≤ (List.range (kinds (ks.take i)).length).length := List.length_filter_le _ _
      simp only [List.length_range, List.length_map, List.length_take] at h1 ⊢
      have := ht.1
      omega
    refine wpAny_execs_cons (wpAny_If (wpAny_isTrue_Compare1 (ldL F₃ (v := v) rfl (ldL F₃ (v := .ref a) hJ.1 ?_))))
    refine notIn_listAt (fun y => kindT (numOf S₁ y) == kindT k) hJ.2.isList (fun y hy => ?_) (wpAny_truthy_bool ?_)
    · obtain ⟨p, hp, hpv, hpf, rfl⟩ := dedV_mem (ht.mono hSS) (by simpa using hy)
      have := (ht.mono hSS).at hpv
      rw [numOf_eq this]
      exact eq_things (this.mono F₃.sub) (hT.mono F₃.sub) (by simp only [Around.in1_units, Around.deeper_units]; omega)
    · rw [any_kept (ht.mono hSS) i k (by omega)]
      have hsn := dedV_take_snoc (vs := vs) hk (by omega)
      cases hc : (kinds (ks.take i)).contains (kindT k) with
      | true =>
        rw [hc] at hsn
        simp only [Bool.not_true, Bool.false_eq_true, if_false]
        refine wpAny_execs_nil (wpAny_execs_nil ?_)
        refine ⟨S₁, _, fun _ _ e => e, F₃, ⟨?_, ?_⟩, hO⟩
        · exact hJ.1
        · rw [hsn]; simpa using hJ.2
      | false =>
        rw [hc] at hsn
        simp only [Bool.not_false, if_true]
        refine wpAny_execs_cons (exec_append F₃ (a := a) hJ.1 hJ.2 (by simpa using hsmall) ?_)
        refine ldL F₃ (v := v) rfl ⟨S₁, F₃, O₃, hJ.2, fun h' F₄ hp₄ _ => ?_⟩
        refine wpAny_execs_nil (wpAny_execs_nil ?_)
        refine ⟨S₁, _, fun _ _ e => e, F₄, ⟨hJ.1, ?_⟩, hO⟩
        rw [hsn, hv']
        simpa using hp₄
  · intro S₁ s₂ m₁ hSS F₃ hJ hO
    refine wpAny_execs_cons (wpAny_Return_some (ldL F₃ (v := .ref a) hJ.1 ?_))
    obtain ⟨S', x, _, hf⟩ := F₃.freeze
    refine h S' s₂ a x ?_
    have hp := hJ.2
    rw [List.take_of_length_le (by simp [ht.1])] at hp
    obtain ⟨n, e⟩ := hp
    exact ⟨n, (hf a (hO a (by simp)).offB).trans e⟩
end
end Mine

namespace Mine
open PySem.SeqAt PySem.MeetsSeq

section
variable {prog : Program} {w : World} {A : Around} {E : Value → Shared → Prop} {env : Env} {S₀ : Heap} {s₀ : Shared} {B : Heap} {L : Addr} {m : Str → Option Value}

/-- the items of a display, one by one -/
theorem spliced_all {pos : Pos} (P : Nat → Heap → Value → Prop) (mono : ∀ i S S' v, P i S v → Sub S S' → P i S' v) : ∀ (els : List Expr) (k : Nat) (S : Heap) (s : Shared) (Q : List Value → Shared → Prop),
    (∀ e ∈ els, ∀ rest, starEach (e :: rest) env = (false, eval e env) :: starEach rest env) →
    (∀ i e, els[i]? = some e → ∀ (S : Heap) (s : Shared) (Q : Value → Shared → Prop), Frm S₀ s₀ B S L s m → (∀ S' s' v, Frm S₀ s₀ B S' L s' m → Sub S S' → P (k + i) S' v → Q v s') → wpAny (model prog w) A (eval e env) Q E s) →
    Frm S₀ s₀ B S L s m → (∀ S' s' vs, Frm S₀ s₀ B S' L s' m → Sub S S' → vs.length = els.length → (∀ (i : Nat) (v : Value), vs[i]? = some v → P (k + i) S' v) → Q vs s') →
    wpAny (model prog w) A (spliced (backTo pos (starEach els env))) Q E s
  | [], k, S, s, Q, _, _, F, h => spliced_none (h S s [] F (fun _ _ e => e) rfl fun i v hv => by simp at hv)
  | e :: r, k, S, s, Q, hst, each, F, h => by
    refine spliced_more (each 0 e rfl S s _ F fun S₁ s₁ v F₁ hs₁ hP => ?_) (hst e (.head _) r)
    refine spliced_all P mono r (k + 1) S₁ s₁ _ (fun e he => hst e (.tail _ he)) (fun i e' he S s Q F h => each (i + 1) e' he S s Q F fun S' s' v F' hs' hp => h S' s' v F' hs' (by rw [Nat.add_assoc, Nat.add_comm 1 i]; exact hp)) F₁ fun S₂ s₂ vs F₂ hs₂ hl hP₂ => ?_
    refine h S₂ s₂ (v :: vs) F₂ (fun b o e => hs₂ b o (hs₁ b o e)) (by simp [hl]) fun i u hu => ?_
    cases i with
    | zero =>
      have : v = u := by simpa using hu
      subst this
      exact mono _ _ _ _ hP hs₂
    | succ i =>
      have := hP₂ i u (by simpa using hu)
      rw [Nat.add_assoc, Nat.add_comm 1 i] at this
      exact this

/-- a new object, left alone from now on -/
theorem new_frozen {T : String} {data : Data} {Q : Value → Shared → Prop} {S : Heap} {s : Shared} (F : Frm S₀ s₀ B S L s m) (hsz : sizeOk data)  (hf : ({ cls := .type T, data := data } : Obj).isFreed = false)
    (h : ∀ S' s' a, Frm S₀ s₀ B S' L s' m → Sub S S' → S'.get? a = some { cls := .type T, data := data } → s.heap.objs.size ≤ a → Q (.ref a) s') : wpAny (model prog w) A (newObj (.type T) data) Q E s := by
  refine wpAny_newObj_type ?_ hsz
  have hn := push_none s.heap
  have F1 := F.grow (h' := s.heap.push { cls := .type T, data := data }) (fun _ _ e => Heap.get?_push_of_some _ e) s.toks
  obtain ⟨S', F', hs, hg, _⟩ := F1.take (F.fresh hn) (Heap.get?_push_size _ hf)
  exact h S' _ _ F' hs hg (Nat.le_refl _)

theorem el_int {S : Heap} {s : Shared} {i : Int} {k : Nat} {pos : Pos} {Q : Value → Shared → Prop} (F : Frm S₀ s₀ B S L s m) (h : ∀ t s', Frm S₀ s₀ B S L s' m → Q (.int i t) s') :
    wpAny (model prog w) A (eval (.Constant (.int i) k pos) env) Q E s := wpAny_Constant_int (h _ _ (F.toks _))
theorem el_str {S : Heap} {s : Shared} {x : Str} {k : Nat} {pos : Pos} {Q : Value → Shared → Prop} (F : Frm S₀ s₀ B S L s m) (h : ∀ t s', Frm S₀ s₀ B S L s' m → Q (.str x t) s') :
    wpAny (model prog w) A (eval (.Constant (.str x) k pos) env) Q E s := wpAny_Constant_str (h _ _ (F.toks _))

theorem dictOf_k {h : Heap} {a : Addr} {v : Value} (x : h.DictOf (strKind prog w) a (merged [] [(kS, v)])) : ∃ hs t n, h.get? a = some (dctO hs t v n) := by
  obtain ⟨⟨c, dd, dt, sl⟩, es, ep, ho, ⟨h1, h2, h3⟩, hd, _, hp, _⟩ := x
  simp only at h1 h2 h3 hd
  subst h1 h2 h3 hd
  have e : merged [] [(kS, v)] = [(kS, v)] := by simp [merged, stored]
  rw [e] at hp
  obtain ⟨l⟩ := es
  simp only at hp
  cases hp with
  | @cons e kv es kvs hk hv hr =>
    cases hr
    obtain ⟨eh, ek, ev⟩ := e
    obtain ⟨t, rfl⟩ := Value.isStrOf_shape hk
    simp only at hv
    subst hv
    exact ⟨_, _, _, ho⟩

/-- the dict display with the one key 'k' -/
theorem el_dict {S : Heap} {s : Shared} {k1 k2 : Nat} {p1 p2 pos : Pos} {c : Const} {Q : Value → Shared → Prop} (F : Frm S₀ s₀ B S L s m) (hbig : sysModules < s.heap.objs.size) (V : Value → Prop)
    (hv : ∀ (s : Shared) (Q : Value → Shared → Prop), (∀ v tk, V v → Q v { s with toks := tk }) → wpAny (model prog w) A (eval (.Constant c k2 p2) env) Q E s)
    (h : ∀ S' s' a hs t v n, Frm S₀ s₀ B S' L s' m → Sub S S' → V v → S'.get? a = some (dctO hs t v n) → (a == sysModules) = false → Q (.ref a) s') :
    wpAny (model prog w) A (eval (.Dict [some (.Constant (.str kS) k1 p1)] [.Constant c k2 p2] pos) env) Q E s := by
  have hn := push_none s.heap
  have F1 := F.grow (h' := s.heap.push { cls := .type "dict", data := .dict #[] }) (fun _ _ e => Heap.get?_push_of_some _ e) s.toks
  have O1 := F.fresh hn
  refine wpAny_Dict_pairs (knd := strKind prog w) (pairs := [(eval (.Constant (.str kS) k1 p1) env, do let x ← eval (.Constant c k2 p2) env; standAt pos; pure x)]) rfl (by simp) (by simp) (evalPairs_cons (wpAny_Constant_str ?_))
  refine wpAny_bind (hv _ _ fun v tk hV => wpAny_bind (wpAny_standAt (wpAny_pure (evalPairs_nil ?_))))
  refine ⟨[(kS, v)], ⟨by simp [PySem.strKind, Value.isStrOf], rfl, trivial⟩, ⟨_, #[], 0, Heap.get?_push_size _ rfl, ⟨rfl, rfl, rfl⟩, rfl, fun e he => by simp at he, .nil, by simp⟩, fun h' hd hs' => ?_⟩
  obtain ⟨hs, t, n, hg⟩ := dictOf_k hd
  obtain ⟨S', F', hs, hg', _⟩ := (F1.upd O1 hs'.extBut (tk + 1)).take O1 hg
  exact h S' _ _ _ _ _ _ F' hs hV hg' (by
    have : s.heap.objs.size ≠ sysModules := fun e => Nat.lt_irrefl _ (e ▸ hbig)
    simpa using this)
end
end Mine

namespace Mine
open PySem.SeqAt PySem.MeetsSeq

abbrev xK : Str := Str.ofString "k"

theorem Gnd.big {S : Heap} {s : Shared} (G : Gnd S) (hS : Sub S s.heap) : 29 < s.heap.objs.size := Heap.lt_size (hS _ _ (G.fn 29 fdUnh rfl).1)

theorem sizeOk_seq {vs : List Value} (h : vs.length ≤ 1000) : sizeOk (.seq vs.toArray) := by
  show vs.toArray.size ≤ sizeLine
  rw [List.size_toArray]; unfold sizeLine; omega

section
variable {prog : Program} {w : World} {A : Around} {E : Value → Shared → Prop} {s : Shared}

/-- an item of a list, at a place that is in it -/
theorem item_list {value slice : PySem.Expr} {l : Addr} {vs : Array Value} {k : Nat} {u : Tok} {v : Value} {Q : Value → Shared → Prop}
    (hl : s.heap.IsList l vs) (hhi : k < 1000) (hx : vs[k]? = some v) (h : Q v s)
    (hs : subscripted slice false (.ref l) (.int k u) = operate [.ref l, .int k u] (getItem (.ref l) (.int k u)) := by with_unfolding_all rfl) :
    wpAny (model prog w) A (subscriptTail value slice (.ref l) (.int k u)) Q E s :=
  tail_any hl.typeIs slot_list_getitem.lookup (wpAny_getItem_list hl (by omega) (by omega) (by simpa using hx) h) hs

set_option maxHeartbeats 400000 in
theorem kind_spec {S : Heap} {k : Nat} {t : Tok} {Q : Value → Shared → Prop} (G : Gnd S) (hS : Sub S s.heap) (hk : k < 16) (hdep : A.depth < recursionLimit)
    (h : ∀ s' t', Ext S s S s' → Q (.int (kindT k) t') s') : wpAny (model prog w) A (call (.ref 50) [.int k t]) Q E s := by
  refine call_fn (fd := fdKind) (body := bodyOf 6) (binds := [(xK, .int k t)]) G hS rfl rfl hdep (BindsTo.of_eq rfl) (locs rfl) ?_
  intro s₁ F
  refine wpAny_execs_cons ?_
  refine wpAny_Return_some ?_
  refine Subscript_ ?_
  refine List_ ?_
  with_reducible refine spliced_all (fun i _ v => ∃ t, v = .int (kindT i) t) (fun _ _ _ _ hp _ => hp) _ 0 S s₁ _ ?_ ?_ F ?_
  · intro e he rest
    simp only [List.mem_cons, List.mem_nil_iff, or_false] at he
    rcases he with rfl | rfl | rfl | rfl | rfl | rfl | rfl | rfl | rfl | rfl | rfl | rfl | rfl | rfl | rfl | rfl <;> rfl
  · intro i e he S₁ s₂ Q₂ F₂ h₂
    match i, he with
    | 0, he | 1, he | 2, he | 3, he | 4, he | 5, he | 6, he | 7, he | 8, he | 9, he | 10, he | 11, he | 12, he | 13, he | 14, he | 15, he =>
      cases he
      exact el_int F₂ fun t s' F' => h₂ S₁ s' _ F' (fun _ _ e => e) ⟨t, rfl⟩
  · intro S₁ s₂ vs F₂ hs₂ hl hP
    refine new_frozen F₂ (sizeOk_seq (by rw [hl]; decide)) rfl fun S₃ s₃ a F₃ hs₃ hg ha => ?_
    refine ldL F₃ (v := .int k t) rfl ?_
    have hlk : k < vs.length := by rw [hl]; exact hk
    obtain ⟨t', ht'⟩ := hP k vs[k] (by simp [hlk])
    rw [Nat.zero_add] at ht'
    refine item_list (v := .int (kindT k) t') ⟨_, F₃.sub _ _ hg, rfl, _, rfl⟩ (by omega) (by simp [hlk, ht']) ?_
    have x := F₃.ext
    exact h s₃ t' ⟨x.st, x.keep, fun _ _ e => e, fun b o e => x.keep b o (hS b o e), fun _ _ _ => rfl⟩
end

section
variable {prog : Program} {w : World} {A : Around} {E : Value → Shared → Prop} {env : Env} {S₀ : Heap} {s₀ : Shared} {B : Heap} {L : Addr} {m : Str → Option Value}

theorem el_tuple {S : Heap} {s : Shared} {e : Expr} {k : Nat} {pos : Pos} {Q : Value → Shared → Prop} (F : Frm S₀ s₀ B S L s m) (P : Heap → Value → Prop) (hstar : starEach [e] env = (false, eval e env) :: starEach [] env)
    (he : ∀ Q : Value → Shared → Prop, (∀ S' s' v, Frm S₀ s₀ B S' L s' m → Sub S S' → P S' v → Q v s') → wpAny (model prog w) A (eval e env) Q E s)
    (h : ∀ S' S'' s' a v, Frm S₀ s₀ B S'' L s' m → Sub S S'' → Sub S' S'' → P S' v → S''.get? a = some (tupO [v]) → Q (.ref a) s') : wpAny (model prog w) A (eval (.Tuple [e] k pos) env) Q E s := by
  refine Tuple_ (spliced_more (he _ fun S' s' v F' hs hP => spliced_none ?_) hstar)
  exact new_frozen F' (sizeOk_seq (by simp)) rfl fun S'' s'' a F'' hs'' hg _ => h S' S'' s'' a v F'' (fun b o e => hs'' b o (hs b o e)) hs'' hP hg
theorem el_list {S : Heap} {s : Shared} {e : Expr} {pos : Pos} {Q : Value → Shared → Prop} (F : Frm S₀ s₀ B S L s m) (P : Heap → Value → Prop) (hstar : starEach [e] env = (false, eval e env) :: starEach [] env)
    (he : ∀ Q : Value → Shared → Prop, (∀ S' s' v, Frm S₀ s₀ B S' L s' m → Sub S S' → P S' v → Q v s') → wpAny (model prog w) A (eval e env) Q E s)
    (h : ∀ S' S'' s' a v, Frm S₀ s₀ B S'' L s' m → Sub S S'' → Sub S' S'' → P S' v → S''.get? a = some (lstO [v] 0) → Q (.ref a) s') : wpAny (model prog w) A (eval (.List [e] pos) env) Q E s := by
  refine List_ (spliced_more (he _ fun S' s' v F' hs hP => spliced_none ?_) hstar)
  exact new_frozen F' (sizeOk_seq (by simp)) rfl fun S'' s'' a F'' hs'' hg _ => h S' S'' s'' a v F'' (fun b o e => hs'' b o (hs b o e)) hs'' hP hg
theorem el_list0 {S : Heap} {s : Shared} {pos : Pos} {Q : Value → Shared → Prop} (F : Frm S₀ s₀ B S L s m)
    (h : ∀ S' s' a, Frm S₀ s₀ B S' L s' m → Sub S S' → S'.get? a = some (lstO [] 0) → Q (.ref a) s') : wpAny (model prog w) A (eval (.List [] pos) env) Q E s :=
  List_ (spliced_none (new_frozen F (sizeOk_seq (by simp)) rfl fun S' s' a F' hs hg _ => h S' s' a F' hs hg))
end

section
variable {prog : Program} {w : World} {A : Around} {E : Value → Shared → Prop} {s : Shared}

set_option maxHeartbeats 1000000 in
theorem thing_spec {S : Heap} {k : Nat} {t : Tok} {Q : Value → Shared → Prop} (G : Gnd S) (hS : Sub S s.heap) (hk : k < 16) (hdep : A.depth < recursionLimit)
    (h : ∀ S' s' v, Ext S s S' s' → TAt S' v k → Q v s') : wpAny (model prog w) A (call (.ref 43) [.int k t]) Q E s := by
  refine call_fn (fd := fdThing) (body := bodyOf 5) (binds := [(xK, .int k t)]) G hS rfl rfl hdep (BindsTo.of_eq rfl) (locs rfl) ?_
  intro s₁ F
  refine wpAny_execs_cons ?_
  refine wpAny_Return_some ?_
  refine Subscript_ ?_
  refine List_ ?_
  with_reducible refine spliced_all (fun i S v => TAt S v i) (fun _ _ _ _ hp hs => hp.mono hs) _ 0 S s₁ _ ?_ ?_ F ?_
  · intro e he rest
    simp only [List.mem_cons, List.mem_nil_iff, or_false] at he
    rcases he with rfl | rfl | rfl | rfl | rfl | rfl | rfl | rfl | rfl | rfl | rfl | rfl | rfl | rfl | rfl | rfl <;> rfl
  · intro i e he S₁ s₂ Q₂ F₂ h₂
    have hbig : sysModules < s₂.heap.objs.size := by
      have := G.big hS
      obtain ⟨o, ho⟩ : ∃ o, s₂.heap.get? 29 = some o := ⟨_, F₂.sub _ _ (F₂.le _ _ (G.fn 29 fdUnh rfl).1)⟩
      exact Nat.lt_of_lt_of_le (by decide : sysModules < 29) (Nat.le_of_lt (Heap.lt_size ho))
    match i, he with
    | 0, he => cases he; exact el_int F₂ fun t s' F' => h₂ S₁ s' _ F' (fun _ _ e => e) (.i0 t)
    | 1, he => cases he; exact wpAny_Constant_bool (h₂ S₁ _ _ F₂ (fun _ _ e => e) .f)
    | 2, he => cases he; exact el_int F₂ fun t s' F' => h₂ S₁ s' _ F' (fun _ _ e => e) (.i1 t)
    | 3, he => cases he; exact wpAny_Constant_bool (h₂ S₁ _ _ F₂ (fun _ _ e => e) .t)
    | 4, he => cases he; exact el_int F₂ fun t s' F' => h₂ S₁ s' _ F' (fun _ _ e => e) (.i2 t)
    | 5, he => cases he; exact el_str F₂ fun t s' F' => h₂ S₁ s' _ F' (fun _ _ e => e) (.sa t)
    | 6, he => cases he; exact el_str F₂ fun t s' F' => h₂ S₁ s' _ F' (fun _ _ e => e) (.se t)
    | 7, he => cases he; exact wpAny_Constant_none (h₂ S₁ _ _ F₂ (fun _ _ e => e) .n)
    | 8, he =>
      cases he
      refine el_tuple F₂ (fun _ v => ∃ t, v = .int 1 t) rfl (fun Q hq => el_int F₂ fun t s' F' => hq S₁ s' _ F' (fun _ _ e => e) ⟨t, rfl⟩) ?_
      rintro S' S'' s' a v F' hs _ ⟨t, rfl⟩ hg
      exact h₂ S'' s' _ F' hs (.tu1 hg)
    | 9, he =>
      cases he
      refine el_tuple F₂ (fun _ v => v = .bool true) rfl (fun Q hq => wpAny_Constant_bool (hq S₁ _ _ F₂ (fun _ _ e => e) rfl)) ?_
      rintro S' S'' s' a v F' hs _ rfl hg
      exact h₂ S'' s' _ F' hs (.tuT hg)
    | 10, he =>
      cases he
      refine el_list F₂ (fun _ v => ∃ t, v = .int 1 t) rfl (fun Q hq => el_int F₂ fun t s' F' => hq S₁ s' _ F' (fun _ _ e => e) ⟨t, rfl⟩) ?_
      rintro S' S'' s' a v F' hs _ ⟨t, rfl⟩ hg
      exact h₂ S'' s' _ F' hs (.l1 hg)
    | 11, he =>
      cases he
      refine el_list F₂ (fun _ v => v = .bool true) rfl (fun Q hq => wpAny_Constant_bool (hq S₁ _ _ F₂ (fun _ _ e => e) rfl)) ?_
      rintro S' S'' s' a v F' hs _ rfl hg
      exact h₂ S'' s' _ F' hs (.lT hg)
    | 12, he =>
      cases he
      refine el_dict F₂ hbig (fun v => ∃ t, v = .int 1 t) (fun s Q hq => wpAny_Constant_int (hq _ _ ⟨_, rfl⟩)) ?_
      rintro S' s' a hs t v n F' hsub ⟨u, rfl⟩ hg hne
      exact h₂ S' s' _ F' hsub (.d1 hg hne)
    | 13, he =>
      cases he
      refine el_dict F₂ hbig (fun v => v = .bool true) (fun s Q hq => wpAny_Constant_bool (hq _ s.toks rfl)) ?_
      rintro S' s' a hs t v n F' hsub rfl hg hne
      exact h₂ S' s' _ F' hsub (.dT hg hne)
    | 14, he =>
      cases he
      refine el_tuple F₂ (fun S v => ∃ b, v = .ref b ∧ S.get? b = some (lstO [] 0)) rfl (fun Q hq => el_list0 F₂ fun S' s' a F' hs hg => hq S' s' _ F' hs ⟨a, rfl, hg⟩) ?_
      rintro S' S'' s' a v F' hs hs' ⟨b, rfl, hb⟩ hg
      exact h₂ S'' s' _ F' hs (.tl hg (hs' _ _ hb))
    | 15, he =>
      cases he
      exact el_list0 F₂ fun S' s' a F' hs hg => h₂ S' s' _ F' hs (.le hg)
  · intro S₁ s₂ vs F₂ hs₂ hl hP
    refine new_frozen F₂ (sizeOk_seq (by rw [hl]; decide)) rfl fun S₃ s₃ a F₃ hs₃ hg ha => ?_
    refine ldL F₃ (v := .int k t) rfl ?_
    have hlk : k < vs.length := by rw [hl]; exact hk
    have ht' := hP k vs[k] (by simp [hlk])
    rw [Nat.zero_add] at ht'
    refine item_list (v := vs[k]) ⟨_, F₃.sub _ _ hg, rfl, _, rfl⟩ (by omega) (by simp [hlk]) ?_
    exact h S₃ s₃ _ F₃.ext (ht'.mono hs₃)
end
end Mine

namespace Mine
open PySem.SeqAt PySem.MeetsSeq

abbrev toZ (ks : List Nat) : List Int := ks.map fun k : Nat => (k : Int)
/-- a list of small ints -/
def Row (h : Heap) (a : Addr) (ks : List Nat) : Prop := ∃ vs, h.PlainList a vs.toArray ∧ IntsAre vs (toZ ks)
theorem Row.mono {h h' : Heap} {a : Addr} {ks : List Nat} (x : Row h a ks) (hs : Sub h h') : Row h' a ks := let ⟨vs, p, i⟩ := x; ⟨vs, plain_sub p hs, i⟩
theorem Row.at {h h' : Heap} {a : Addr} {ks : List Nat} (x : Row h a ks) (hk : ∀ o, h.get? a = some o → h'.get? a = some o) : Row h' a ks := let ⟨vs, p, i⟩ := x; ⟨vs, p.at hk, i⟩

def idx (n : Int) : Nat := ((n.fdiv 3).fmod 16).toNat
theorem idx_lt (n : Int) : idx n < 16 := by
  unfold idx
  have h1 := Int.fmod_lt_of_pos (n.fdiv 3) (by decide : (0 : Int) < 16)
  omega
theorem idx_cast (n : Int) : ((idx n : Nat) : Int) = (n.fdiv 3).fmod 16 := by
  unfold idx
  have h1 := Int.fmod_nonneg_of_pos (n.fdiv 3) (by decide : (0 : Int) < 16)
  omega
def rowA (ns : List Int) : List Nat := [2, 5] ++ (ns.filter fun n => n.fmod 3 != 1).map idx
def rowB (ns : List Int) : List Nat := [3, 5] ++ (ns.filter fun n => n.fmod 3 != 0).map idx
theorem rowA_snoc (ns : List Int) (n : Int) : rowA (ns ++ [n]) = rowA ns ++ (if n.fmod 3 != 1 then [idx n] else []) := by
  unfold rowA
  rw [List.filter_append, List.map_append, List.append_assoc, List.filter_cons, List.filter_nil]
  cases n.fmod 3 != 1 <;> simp
theorem rowB_snoc (ns : List Int) (n : Int) : rowB (ns ++ [n]) = rowB ns ++ (if n.fmod 3 != 0 then [idx n] else []) := by
  unfold rowB
  rw [List.filter_append, List.map_append, List.append_assoc, List.filter_cons, List.filter_nil]
  cases n.fmod 3 != 0 <;> simp
theorem rowA_len (ns : List Int) : (rowA ns).length ≤ ns.length + 2 := by
  unfold rowA
  have := List.length_filter_le (fun n : Int => n.fmod 3 != 1) ns
  simp only [List.length_append, List.length_map, List.length_cons, List.length_nil]; omega
theorem rowB_len (ns : List Int) : (rowB ns).length ≤ ns.length + 2 := by
  unfold rowB
  have := List.length_filter_le (fun n : Int => n.fmod 3 != 0) ns
  simp only [List.length_append, List.length_map, List.length_cons, List.length_nil]; omega

abbrev xNums : Str := Str.ofString "numbers"
abbrev xNum : Str := Str.ofString "number"
abbrev xFi : Str := Str.ofString "first"
abbrev xSe : Str := Str.ofString "second"

section
variable {prog : Program} {w : World} {A : Around} {E : Value → Shared → Prop} {s : Shared} {env : Env} {S₀ : Heap} {s₀ : Shared} {B S : Heap} {L : Addr} {m : Str → Option Value}

theorem test_mod {x : Str} {px p1 p2 p3 p4 : Pos} {k1 k2 : Nat} {c n : Int} {t : Tok} {whole : Sem Value} {Q : Bool → Shared → Prop} (F : Frm S₀ s₀ B S L s m) (hv : m x = some (.int n t))
    (h : ∀ s', Frm S₀ s₀ B S L s' m → s'.heap = s.heap → Q (n.fmod 3 != c) s')
    (hk : env.scope.kind = .function := by rfl) (hl : env.kindOf x = some .local := by rfl) (hL : env.locals = L := by rfl) (hd : (x == ("__debug__" : Str)) = false := by decide)
    (hb : behindInMarks CmpOp.NotEq (.Constant (.int c) k2 p3) = false := by rfl) :
    wpAny (model prog w) A (PySem.isTrue (.Compare (.BinOp (.Name x px) .Mod (.Constant (.int 3) k1 p1) p2) [.NotEq] [.Constant (.int c) k2 p3] p4) env whole) Q E s := by
  refine wpAny_isTrue_Compare1 (wpAny_BinOp (ldL F hv (wpAny_Constant_int ?_) hk hl hL hd)) hb
  refine mod_int' (by decide) (wpAny_Constant_int (ne_int (wpAny_truthy_bool ?_)))
  exact h _ (((F.toks _).toks _).toks _) rfl

theorem eval_idx {x : Str} {px p1 p2 p3 p4 : Pos} {k1 k2 : Nat} {n : Int} {t : Tok} {Q : Value → Shared → Prop} (F : Frm S₀ s₀ B S L s m) (hv : m x = some (.int n t))
    (h : ∀ s' t', Frm S₀ s₀ B S L s' m → s'.heap = s.heap → Q (.int (idx n) t') s')
    (hk : env.scope.kind = .function := by rfl) (hl : env.kindOf x = some .local := by rfl) (hL : env.locals = L := by rfl) (hd : (x == ("__debug__" : Str)) = false := by decide) :
    wpAny (model prog w) A (eval (.BinOp (.BinOp (.Name x px) .FloorDiv (.Constant (.int 3) k1 p1) p2) .Mod (.Constant (.int 16) k2 p3) p4) env) Q E s := by
  refine wpAny_BinOp (wpAny_BinOp (ldL F hv (wpAny_Constant_int ?_) hk hl hL hd))
  refine floordiv_int (by decide) (wpAny_Constant_int (mod_int' (by decide) ?_)) (.inl ?_)
  · rw [← idx_cast]
    exact h _ _ ((((F.toks _).toks _).toks _).toks _) rfl
  · unfold Builtin.divisionGoesByPylong
    have e : ((3 : Int) == 0) = false := by decide
    simp only [e, Bool.false_eq_true, if_false]
    rw [Bool.and_eq_false_imp]
    intro h
    exact absurd h (by decide +kernel)

/-- two lists put together -/
theorem add_two {l b : Addr} {vs ws : List Value} {Q : Value → Shared → Prop} (hl : s.heap.IsList l vs.toArray) (hb : s.heap.IsList b ws.toArray) (hsz : vs.length + ws.length ≤ 1000)
    (h : Q (.ref s.heap.objs.size) { s with heap := s.heap.push { cls := .type "list", data := .seq (vs ++ ws).toArray } }) : wpAny (model prog w) A (binaryOp .Add (.ref l) (.ref b)) Q E s := by
  obtain ⟨⟨cls, dd, data, sl⟩, ho, hc, n, hd⟩ := id hl
  obtain ⟨⟨cls2, dd2, data2, sl2⟩, ho2, hc2, n2, hd2⟩ := id hb
  simp only at hc hd hc2 hd2
  subst hc hd hc2 hd2
  have e : vs.toArray ++ ws.toArray = (vs ++ ws).toArray := by simp
  refine concat_meets ⟨_, ho, rfl⟩ ⟨_, ho2, rfl⟩ noFill_list_add seq_list_add PySem.F.slot_list_add PySem.F.entry_list_add (PySem.F.args_list_add_2 _ _) (list_addW l b vs.toArray ws.toArray n n2 dd dd2 sl sl2 (by simp only [List.size_toArray]; unfold sizeLine; omega)) ⟨ho, ho2, ?_⟩
  rw [e]
  exact h
end
end Mine

namespace Mine
open PySem.SeqAt PySem.MeetsSeq

section
variable {prog : Program} {w : World} {A : Around} {E : Value → Shared → Prop} {s : Shared} {env : Env} {S₀ : Heap} {s₀ : Shared} {B S : Heap} {L : Addr} {m : Str → Option Value}

/-- x = [a, b] for two ints -/
theorem assign_two {x : Str} {px p1 p2 p3 sp : Pos} {k1 k2 : Nat} {i j : Int} {Q : Flow → Shared → Prop} (F : Frm S₀ s₀ B S L s m)
    (h : ∀ s' a t u, Frm S₀ s₀ B S L s' (upd m x (.ref a)) → Own S₀ B S L a → s'.heap.PlainList a #[.int i t, .int j u] → s.heap.objs.size ≤ a → (∀ b o, b ≠ L → s.heap.get? b = some o → s'.heap.get? b = some o) → Q .next s')
    (hk : env.scope.kind = .function := by rfl) (hl : env.kindOf x = some .local := by rfl) (hL : env.locals = L := by rfl)
    (hsw : swapsWith (.List [.Constant (.int i) k1 p1, .Constant (.int j) k2 p2] p3) (some (.Name x px)) sp.line env = pure false := by rfl) :
    wpAny (model prog w) A (exec (.Assign [.Name x px] (.List [.Constant (.int i) k1 p1, .Constant (.int j) k2 p2] p3) sp) env) Q E s := by
  refine wpAny_Assign_Name ?_ hsw
  refine List_ ?_
  refine spliced_more (wpAny_Constant_int ?_)
  refine spliced_more (wpAny_Constant_int ?_)
  refine spliced_none ?_
  refine wpAny_newObj_type ?_ (sizeOk_seq (by simp))
  have hn := push_none s.heap
  have F1 := ((F.toks (s.toks + 1)).toks (s.toks + 1 + 1)).grow (h' := s.heap.push { cls := .type "list", data := .seq [.int i s.toks, .int j (s.toks + 1)].toArray }) (fun _ _ e => Heap.get?_push_of_some _ e) (s.toks + 1 + 1)
  have O1 := F.fresh hn
  refine stL F1 (fun h₂ F₂ hk₂ => ?_) hk hl hL
  refine h _ _ _ _ F₂ O1 ⟨0, (hk₂ _ O1.ne).trans (Heap.get?_push_size _ rfl)⟩ (Nat.le_refl _) fun b o hb e => (hk₂ b hb).trans (Heap.get?_push_of_some _ e)

/-- the turn's half: if number % 3 != c: x.append(number // 3 % 16) -/
theorem half_turn {x : Str} {p1 p2 p3 p4 p5 p6 p7 p8 p9 p10 p11 p12 p13 p14 p15 : Pos} {k1 k2 k3 k4 : Nat} {c n : Int} {t : Tok} {a : Addr} {vs : List Value} {ks : List Nat} {pl : Sem Bool} {Q : Flow → Shared → Prop} (F : Frm S₀ s₀ B S L s m)
    (hv : m xNum = some (.int n t)) (ha : m x = some (.ref a)) (O : Own S₀ B S L a) (hpl : s.heap.PlainList a vs.toArray) (hi : IntsAre vs (toZ ks)) (hlen : ks.length ≤ 100)
    (h : ∀ s', Frm S₀ s₀ B S L s' m → Row s'.heap a (ks ++ (if n.fmod 3 != c then [idx n] else [])) → (∀ b, b ≠ a → s'.heap.get? b = s.heap.get? b) → Q .next s')
    (hk : env.scope.kind = .function := by rfl) (hl : env.kindOf xNum = some .local := by rfl) (hlx : env.kindOf x = some .local := by rfl) (hL : env.locals = L := by rfl) (hd : (x == ("__debug__" : Str)) = false := by decide)
    (hint : interactive env = false := by rfl)
    (hs : swapsWith (.Call (.Attribute (.Name x p6) (Str.ofString "append") p7) [.BinOp (.BinOp (.Name xNum p8) .FloorDiv (.Constant (.int 3) k3 p9) p10) .Mod (.Constant (.int 16) k4 p11) p12] [] p13) none p14.line env = pure false := by rfl)
    (hstar : starEach [.BinOp (.BinOp (.Name xNum p8) .FloorDiv (.Constant (.int 3) k3 p9) p10) .Mod (.Constant (.int 16) k4 p11) p12] env = (false, eval (.BinOp (.BinOp (.Name xNum p8) .FloorDiv (.Constant (.int 3) k3 p9) p10) .Mod (.Constant (.int 16) k4 p11) p12) env) :: starEach [] env := by rfl)
    (hm : eval (.Call (.Attribute (.Name x p6) (Str.ofString "append") p7) [.BinOp (.BinOp (.Name xNum p8) .FloorDiv (.Constant (.int 3) k3 p9) p10) .Mod (.Constant (.int 16) k4 p11) p12] [] p13) env = (do
          let ov ← eval (.Name x p6) env
          standAt p7.atName
          let (f, first) ← holding [ov] (getMethod ov (Str.ofString "append") pl)
          callWith p13 f first (backTo p13 (starEach [.BinOp (.BinOp (.Name xNum p8) .FloorDiv (.Constant (.int 3) k3 p9) p10) .Mod (.Constant (.int 16) k4 p11) p12] env)) []) := by rfl) :
    wpAny (model prog w) A (exec (.If (.Compare (.BinOp (.Name xNum p1) .Mod (.Constant (.int 3) k1 p2) p3) [.NotEq] [.Constant (.int c) k2 p4] p5)
      [.Expr (.Call (.Attribute (.Name x p6) (Str.ofString "append") p7) [.BinOp (.BinOp (.Name xNum p8) .FloorDiv (.Constant (.int 3) k3 p9) p10) .Mod (.Constant (.int 16) k4 p11) p12] [] p13) p14] [] p15) env) Q E s := by
  refine wpAny_If (test_mod F hv (fun s₁ F₁ e₁ => ?_) hk hl hL)
  cases hc : n.fmod 3 != c with
  | false =>
    simp only [Bool.false_eq_true, if_false]
    refine wpAny_execs_nil (h s₁ F₁ ?_ fun b _ => by rw [e₁])
    rw [hc]
    simp only [Bool.false_eq_true, if_false, List.append_nil]
    exact ⟨vs, by rw [e₁]; exact hpl, hi⟩
  | true =>
    simp only [if_true]
    have hpl₁ : s₁.heap.PlainList a vs.toArray := by rw [e₁]; exact hpl
    have hl' : vs.length = ks.length := by rw [hi.length]; simp
    refine wpAny_execs_cons (exec_append F₁ ha hpl₁ (by simp only [List.size_toArray]; omega) ?_ hk hlx hL hd hint hs hstar hm)
    refine eval_idx F₁ hv (fun s₂ t' F₂ e₂ => ?_) hk hl hL
    refine ⟨S, F₂, O, by rw [e₂]; exact hpl₁, fun h' F₃ hp₃ hk₃ => wpAny_execs_nil (h _ F₃ ?_ fun b hb => ?_)⟩
    · rw [hc]
      simp only [if_true]
      refine ⟨vs ++ [.int (idx n) t'], by simpa using hp₃, ?_⟩
      simp only [toZ, List.map_append, List.map_cons, List.map_nil]
      exact IntsAre.append hi (.cons _ _ .nil)
    · rw [hk₃ b hb, e₂, e₁]
end
end Mine

namespace Mine
open PySem.SeqAt PySem.MeetsSeq

section
variable {prog : Program} {w : World} {A : Around} {E : Value → Shared → Prop} {s : Shared}

set_option maxHeartbeats 1000000 in
theorem rows_spec {S : Heap} {l : Addr} {vs : List Value} {ns : List Int} {Q : Value → Shared → Prop} (G : Gnd S) (hS : Sub S s.heap) (hl : S.IsList l vs.toArray) (hi : IntsAre vs ns) (hlen : ns.length ≤ 16)
    (hh : A.handled = none) (hdep : A.depth < recursionLimit)
    (h : ∀ S' s' a r₀ r₁ r₂ r₃, Ext S s S' s' → S'.PlainList a #[.ref r₀, .ref r₁, .ref r₂, .ref r₃] → Row S' r₀ (rowA ns) → Row S' r₁ (rowB ns) → Row S' r₂ (rowA ns ++ rowB ns) → Row S' r₃ (rowB ns ++ rowA ns) → Q (.ref a) s') :
    wpAny (model prog w) A (call (.ref 57) [.ref l]) Q E s := by
  refine call_fn (fd := fdRows) (body := bodyOf 7) (binds := [(xNums, .ref l)]) G hS rfl rfl hdep (BindsTo.of_eq rfl) (locs rfl) ?_
  intro s₁ F
  refine wpAny_execs_cons (assign_two F fun s₂ a t u F₂ O₂ hp₂ hge₂ hk₂ => ?_)
  refine wpAny_execs_cons (assign_two F₂ fun s₃ b t' u' F₃ O₃ hp₃ hge₃ hk₃ => ?_)
  have hab : a ≠ b := by
    rintro rfl
    obtain ⟨n, e⟩ := hp₂
    exact absurd (Heap.lt_size e) (Nat.not_lt.mpr hge₃)
  have hp₂' : s₃.heap.PlainList a #[.int 2 t, .int 5 u] := hp₂.at fun o e => hk₃ a o O₂.ne e
  refine wpAny_execs_cons (wpAny_For (ldL F₃ (v := .ref l) rfl ?_))
  refine for_list F₃ (stop_none hh) hl [a, b] (fun i S h m => m xFi = some (.ref a) ∧ m xSe = some (.ref b) ∧ Row h a (rowA (ns.take i)) ∧ Row h b (rowB (ns.take i))) ⟨rfl, rfl, ⟨_, hp₂', ?_⟩, ⟨_, hp₃, ?_⟩⟩
    (fun i S h h' m hj hk => ⟨hj.1, hj.2.1, hj.2.2.1.at fun o e => hk a (by simp) o e, hj.2.2.2.at fun o e => hk b (by simp) o e⟩) (fun c hc => ?_) ?_ ?_
  · exact .cons _ _ (.cons _ _ .nil)
  · exact .cons _ _ (.cons _ _ .nil)
  · simp only [List.mem_cons, List.mem_nil_iff, or_false] at hc
    rcases hc with rfl | rfl
    · obtain ⟨n, e⟩ := hp₂'; exact ⟨O₂, _, e⟩
    · obtain ⟨n, e⟩ := hp₃; exact ⟨O₃, _, e⟩
  · intro i B₁ S₁ s₄ m₁ v hv hSS F₄ hJ hO
    obtain ⟨n, tn, rfl, hn⟩ := hi.at i v (by simpa using hv)
    obtain ⟨hJ1, hJ2, ⟨va, ra, ia⟩, ⟨vb, rb, ib⟩⟩ := hJ
    have hlt : i < ns.length := by
      rcases Nat.lt_or_ge i ns.length with q | q
      · exact q
      · rw [List.getElem?_eq_none q] at hn; cases hn
    have la := rowA_len (ns.take i)
    have lb := rowB_len (ns.take i)
    simp only [List.length_take] at la lb
    refine wpAny_execs_cons (half_turn F₄ (a := a) rfl hJ1 (hO a (by simp)) ra ia (by omega) fun s₅ F₅ R₅ k₅ => ?_)
    have rb₅ : s₅.heap.PlainList b vb.toArray := rb.at fun o e => (k₅ b hab.symm).trans e
    refine wpAny_execs_cons (half_turn F₅ (a := b) rfl hJ2 (hO b (by simp)) rb₅ ib (by omega) fun s₆ F₆ R₆ k₆ => ?_)
    refine wpAny_execs_nil ⟨S₁, _, fun _ _ e => e, F₆, ⟨hJ1, hJ2, ?_, ?_⟩, hO⟩
    · rw [take_snoc hn, rowA_snoc]
      exact R₅.at fun o e => (k₆ a hab).trans e
    · rw [take_snoc hn, rowB_snoc]
      exact R₆
  · intro S₁ s₄ m₁ hSS F₄ hJ hO
    obtain ⟨hJ1, hJ2, ⟨va, ra, ia⟩, ⟨vb, rb, ib⟩⟩ := hJ
    have hvs : vs.toArray.size = ns.length := by simp [hi.length]
    rw [hvs, List.take_length] at ia ib
    have la := rowA_len ns
    have lb := rowB_len ns
    have lva : va.length = (rowA ns).length := by rw [ia.length]; simp
    have lvb : vb.length = (rowB ns).length := by rw [ib.length]; simp
    refine wpAny_execs_cons ?_
    refine wpAny_Return_some ?_
    refine List_ ?_
    refine spliced_more (ldL F₄ (v := .ref a) hJ1 ?_)
    refine spliced_more (ldL F₄ (v := .ref b) hJ2 ?_)
    refine spliced_more (wpAny_BinOp (ldL F₄ (v := .ref a) hJ1 (ldL F₄ (v := .ref b) hJ2 ?_)))
    refine add_two ra.isList rb.isList (by omega) ?_
    have hn₄ := push_none s₄.heap
    have F₅ := F₄.grow (h' := s₄.heap.push { cls := .type "list", data := .seq (va ++ vb).toArray }) (fun _ _ e => Heap.get?_push_of_some _ e) s₄.toks
    refine spliced_more (wpAny_BinOp (ldL F₅ (v := .ref b) hJ2 (ldL F₅ (v := .ref a) hJ1 ?_)))
    refine add_two (rb.isList.push _) (ra.isList.push _) (by omega) ?_
    have hn₅ := push_none (s₄.heap.push { cls := .type "list", data := .seq (va ++ vb).toArray })
    have F₆ := F₅.grow (h' := (s₄.heap.push { cls := .type "list", data := .seq (va ++ vb).toArray }).push { cls := .type "list", data := .seq (vb ++ va).toArray }) (fun _ _ e => Heap.get?_push_of_some _ e) s₄.toks
    refine spliced_none ?_
    refine wpAny_newObj_type ?_ (sizeOk_seq (by simp))
    have hn₆ := push_none ((s₄.heap.push { cls := .type "list", data := .seq (va ++ vb).toArray }).push { cls := .type "list", data := .seq (vb ++ va).toArray })
    have F₇ := F₆.grow (h' := ((s₄.heap.push { cls := .type "list", data := .seq (va ++ vb).toArray }).push { cls := .type "list", data := .seq (vb ++ va).toArray }).push
      { cls := .type "list", data := .seq [Value.ref a, Value.ref b, Value.ref s₄.heap.objs.size, Value.ref (s₄.heap.push { cls := .type "list", data := .seq (va ++ vb).toArray }).objs.size].toArray }) (fun _ _ e => Heap.get?_push_of_some _ e) s₄.toks
    obtain ⟨S', x, _, hf⟩ := F₇.freeze
    have up : ∀ c o, s₄.heap.get? c = some o → s.heap.get? c = none → S'.get? c = some o := fun c o e e0 => (hf c e0).trans (Heap.get?_push_of_some _ (Heap.get?_push_of_some _ (Heap.get?_push_of_some _ e)))
    refine h S' _ _ a b s₄.heap.objs.size (s₄.heap.push { cls := .type "list", data := .seq (va ++ vb).toArray }).objs.size x ⟨0, ?_⟩ ⟨va, ra.at fun o e => up a o e (hO a (by simp)).offB, ia⟩ ⟨vb, rb.at fun o e => up b o e (hO b (by simp)).offB, ib⟩
      ⟨va ++ vb, ⟨0, ?_⟩, ?_⟩ ⟨vb ++ va, ⟨0, ?_⟩, ?_⟩
    · rw [hf _ (F₆.fresh hn₆).offB]
      exact Heap.get?_push_size _ rfl
    · rw [hf _ (F₄.fresh hn₄).offB]
      exact Heap.get?_push_of_some _ (Heap.get?_push_of_some _ (Heap.get?_push_size _ rfl))
    · simpa [toZ] using IntsAre.append ia ib
    · rw [hf _ (F₅.fresh hn₅).offB]
      exact Heap.get?_push_of_some _ (Heap.get?_push_size _ rfl)
    · simpa [toZ] using IntsAre.append ib ia
end
end Mine

namespace Mine
open PySem.SeqAt PySem.MeetsSeq

section
variable {prog : Program} {w : World} {A : Around} {E : Value → Shared → Prop} {s : Shared} {env : Env} {S₀ : Heap} {s₀ : Shared} {B S : Heap} {L : Addr} {m : Str → Option Value}

theorem sub_of_size {h h' : Heap} (x : Heap.ExtBut h.objs.size h h') : Sub h h' := fun b o e => x b o (Nat.ne_of_lt (Heap.lt_size e)) e

/-- x1, x2 = a pair -/
theorem assign_pair {x₁ x₂ : Str} {p₁ p₂ p : Pos} {k} {t : Addr} {v₁ v₂ : Value} {Q : Unit → Shared → Prop} (F : Frm S₀ s₀ B S L s m) (hh : A.handled = none) (ht : s.heap.IsTuple t #[v₁, v₂])
    (h : ∀ s', Frm S₀ s₀ B S L s' (upd (upd m x₁ v₁) x₂ v₂) → (∀ b o, b ≠ L → s.heap.get? b = some o → s'.heap.get? b = some o) → Q () s')
    (hk : env.scope.kind = .function := by rfl) (hl₁ : env.kindOf x₁ = some .local := by rfl) (hl₂ : env.kindOf x₂ = some .local := by rfl) (hL : env.locals = L := by rfl) :
    wpAny (model prog w) A (assign (.Tuple [.Name x₁ p₁, .Name x₂ p₂] k p) env (.ref t)) Q E s := by
  refine wpAny_assign_Tuple hh ht rfl rfl fun h₁ hx₁ => ?_
  have hs₁ := sub_of_size hx₁
  have F₁ := F.grow hs₁ s.toks
  show wpAny _ A (do holding [v₂] (assign (.Name x₁ p₁) env v₁); do holding [] (assign (.Name x₂ p₂) env v₂); pure ()) _ _ _
  refine wpAny_bind (wpAny_holding (wpAny_assign_Name (stL F₁ (fun h₂ F₂ hk₂ => ?_) hk hl₁ hL)))
  refine wpAny_bind (wpAny_holding (wpAny_assign_Name (stL F₂ (fun h₃ F₃ hk₃ => wpAny_pure ?_) hk hl₂ hL)))
  exact h _ F₃ fun b o hb e => (hk₃ b hb).trans ((hk₂ b hb).trans (hs₁ b o e))

/-- for x1, x2 in enumerate(l) -/
theorem for_enum {R : Result → Shared → Prop} {x₁ x₂ : Str} {p₁ p₂ p : Pos} {k} {body : List Stmt} {l : Addr} {items : Array Value} (F : Frm S₀ s₀ B S L s m)
    (hh : A.handled = none) (hl : S.PlainList l items) (fp : List Addr) (J : Nat → Heap → Heap → (Str → Option Value) → Prop)
    (hJ : J 0 S s.heap m) (hJf : ∀ i S h h' m, J i S h m → (∀ b ∈ fp, ∀ o, h.get? b = some o → h'.get? b = some o) → J i S h' m)
    (hfp : ∀ a ∈ fp, Own S₀ B S L a ∧ ∃ o, s.heap.get? a = some o)
    (turn : ∀ i B₁ S₁ s₁ m₁ v t, items[i]? = some v → Sub S S₁ → Frm S₀ s₀ B₁ S₁ L s₁ (upd (upd m₁ x₁ (.int (i : Nat) t)) x₂ v) → J i S₁ s₁.heap m₁ → (∀ a ∈ fp, Own S₀ B₁ S₁ L a) →
      wpAny (model prog w) A (execs body env) (fun f s₂ => match f with
        | .next | .cont => ∃ S₂ m₃, Sub S₁ S₂ ∧ Frm S₀ s₀ B₁ S₂ L s₂ m₃ ∧ J (i + 1) S₂ s₂.heap m₃ ∧ ∀ a ∈ fp, Own S₀ B₁ S₂ L a
        | .brk => R (.ok .next) s₂
        | .ret v => R (.ok (.ret v)) s₂) (notedBy (model prog w) A env fun e s' => R (.error e) s') s₁)
    (fin : ∀ S₁ s₁ m₁, Sub S S₁ → Frm S₀ s₀ B S₁ L s₁ m₁ → J items.size S₁ s₁.heap m₁ → (∀ a ∈ fp, Own S₀ B S₁ L a) → R (.ok .next) s₁)
    (hk : env.scope.kind = .function := by rfl) (hx₁ : env.kindOf x₁ = some .local := by rfl) (hx₂ : env.kindOf x₂ = some .local := by rfl) (hL : env.locals = L := by rfl) :
    wpAny (model prog w) A (call (.type "enumerate") [.ref l]) (fun e s₁ => wpAny (model prog w) A (pyIter e) (fun it s₂ => codeAny (model prog w) A (.forLoop (.Tuple [.Name x₁ p₁, .Name x₂ p₂] k p) it body [] env) R s₂) E s₁) E s := by
  obtain ⟨nl, hgl⟩ := hl
  refine call_enumerate_1 (F.sub _ _ hgl) fun h₁ he₁ hit₁ hsz₁ hk₁ => ?_
  refine wpAny_pyIter_enum he₁ ?_
  have hn0 : s.heap.get? s.heap.objs.size = none := push_none s.heap
  have hn1 : s.heap.get? (s.heap.objs.size + 1) = none := get?_none_of_size (fun _ _ e => e) (Nat.le_succ _)
  have F₁ := F.grow hk₁ s.toks
  have O0 := F.fresh hn0
  have O1 := F.fresh hn1
  generalize hie : s.heap.objs.size + 1 = e at *
  generalize hii : s.heap.objs.size = it at *
  have hei : e ≠ it := by omega
  have hll : ∀ h, Sub S h → h.IsList l items := fun h hs => ⟨_, hs _ _ hgl, rfl, _, rfl⟩
  refine for_gen F₁ [e, it] fp items.size (fun i h => ∃ old, IsEnum h e it ((i : Nat) : Int) old ∧ h.IsListIter it l i ∧ h.IsList l items) (fun i m₁ m₂ => ∃ v t, items[i]? = some v ∧ m₂ = upd (upd m₁ x₁ (.int (i : Nat) t)) x₂ v) J
    ⟨.none, he₁, hit₁, hll _ F₁.sub⟩ (fun b hb => ?_) (fun i h hs b hb => ?_) (fun i h h' hs hk hS => ?_) ?_ ?_
    (hJf _ _ _ _ _ hJ fun b _ o e => hk₁ b o e) hJf (fun a ha => ⟨(hfp a ha).1, ?_⟩) ?_ fin
  · simp only [List.mem_cons, List.mem_nil_iff, or_false] at hb
    rcases hb with rfl | rfl
    · exact O1
    · exact O0
  · obtain ⟨old, a1, ⟨o, ho, _⟩, _⟩ := hs
    simp only [List.mem_cons, List.mem_nil_iff, or_false] at hb
    rcases hb with rfl | rfl
    · exact ⟨_, a1⟩
    · exact ⟨_, ho⟩
  · obtain ⟨old, a1, a2, a3⟩ := hs
    exact ⟨old, hk e (by simp) _ a1, a2.at fun o q => hk it (by simp) o q, hll _ hS⟩
  · intro i S₁ s₁ m₁ Q E' hi hSS F₂ hW ⟨old, he, hit, hls⟩ hQ
    have hv : items[i]? = some items[i] := by simp [hi]
    refine wpAny_pyNext_enum_item he hit hls hv hei fun h₂ heo hit₂ ht₂ hz₂ hk₂ => ?_
    show wpAny _ _ (letOwnedTupleGo _ _ _) _ _ _
    refine wpAny_letOwnedTupleGo_enum heo fun h₃ he₃ hs₃ => ?_
    replace hs₃ : Heap.SameBut e h₂ h₃ := hs₃
    have heH : e < s₁.heap.objs.size := Heap.lt_size he
    have ht₃ : h₃.IsTuple s₁.heap.objs.size #[.int i s₁.toks, items[i]] := ⟨_, (hs₃.2 _ (Nat.ne_of_gt heH)).trans ht₂, rfl, _, rfl⟩
    have Oe := hW e (by simp)
    have Oi := hW it (by simp)
    have F₃ : Frm S₀ s₀ B S₁ L { s₁ with heap := h₃, toks := s₁.toks + 1 } m₁ := by
      obtain ⟨hh', tt, rfl⟩ := F₂.st
      have kk : ∀ b o, b ≠ e → b ≠ it → hh'.get? b = some o → h₃.get? b = some o := fun b o h1 h2 q => hs₃.extBut b o h1 (hk₂ b o h1 h2 q)
      refine ⟨⟨h₃, _, rfl⟩, F₂.base, fun b o q => kk b o ?_ ?_ (F₂.keep b o q), F₂.le, fun b o q => kk b o ?_ ?_ (F₂.sub b o q), F₂.new, F₂.ns.at fun o q => kk L o Oe.ne.symm Oi.ne.symm q, F₂.offB, F₂.off⟩
      · rintro rfl; rw [Oe.offB] at q; cases q
      · rintro rfl; rw [Oi.offB] at q; cases q
      · rintro rfl; rw [Oe.off] at q; cases q
      · rintro rfl; rw [Oi.off] at q; cases q
    refine assign_pair F₃ hh ht₃ (fun s₄ F₄ hk₄ => ?_) hk hx₁ hx₂ hL
    refine hQ s₄ _ F₄ ⟨_, _, hv, rfl⟩ ⟨items[i], ?_, ?_, hll _ fun b o q => F₄.sub b o (hSS b o q)⟩ fun b o hb hbL q => hk₄ b o hbL (hs₃.extBut b o (fun z => hb (by simp [z])) (hk₂ b o (fun z => hb (by simp [z])) (fun z => hb (by simp [z])) q))
    · have e1 : ((i + 1 : Nat) : Int) = (i : Int) + 1 := by push_cast; rfl
      rw [e1]; exact hk₄ e _ Oe.ne he₃
    · exact (hit₂.extBut hs₃.extBut hei.symm).at fun o q => hk₄ it o Oi.ne q
  · intro S₁ s₁ m₁ Q E' hSS F₂ hW ⟨old, he, hit, hls⟩ hQ
    refine wpAny_pyNext_enum_end hh he hit hls (by simp) fun h' hx => ?_
    exact hQ _ (F₂.upd (hW it (by simp)) hx s₁.toks) fun b o hb q => hx b o (fun z => hb (by simp [z])) q
  · intro q
    obtain ⟨o, ho⟩ := (hfp a ha).2
    simp only [List.mem_cons, List.mem_nil_iff, or_false] at q
    rcases q with rfl | rfl
    · rw [hn1] at ho; cases ho
    · rw [hn0] at ho; cases ho
  · rintro i B₁ S₁ s₁ m₁ m₂ hi hSS F₁ ⟨v, t, hv, rfl⟩ hJ₁ hO₁
    exact turn i B₁ S₁ s₁ m₁ v t hv hSS F₁ hJ₁ hO₁
end
end Mine

namespace Mine
open PySem.SeqAt PySem.MeetsSeq

section
variable {prog : Program} {w : World} {A : Around} {E : Value → Shared → Prop} {s : Shared} {env : Env} {S₀ : Heap} {s₀ : Shared} {B S : Heap} {L : Addr} {m : Str → Option Value}

/-- f(e), f a function of the text -/
theorem eval_call1 {f : Str} {p₁ p₂ : Pos} {e : Expr} {a : Addr} {fd : FuncData} {Q : Value → Shared → Prop} (G : Gnd S) (hS : Sub S s.heap) (hf : gtab.lookup f = some a) (hfd : ftab.lookup a = some fd)
    (h : wpAny (model prog w) A (eval e env) (fun v s₁ => Sub S s₁.heap ∧ wpAny (model prog w) A (call (.ref a) [v]) Q E s₁) E s)
    (hk : env.scope.kind = .function := by rfl) (hl : env.kindOf f = some .globalImplicit := by rfl) (hg : env.globals = mainGlobals := by rfl) (hd : (f == ("__debug__" : Str)) = false := by decide)
    (hstar : starEach [e] env = (false, eval e env) :: starEach [] env := by rfl)
    (hev : eval (.Call (.Name f p₁) [e] [] p₂) env = (do
          let g ← eval (.Name f p₁) env
          callWith p₂ g [] (backTo p₂ (starEach [e] env)) (backToKw p₂ (keywordEach [] env))) := by rfl) :
    wpAny (model prog w) A (eval (.Call (.Name f p₁) [e] [] p₂) env) Q E s := by
  refine Call_ (ldG G hS hf ?_ hk hl hg hd) hev
  refine callWith_def_at (hS _ _ (G.fn a fd hfd).1) rfl (spliced_more (wpAny_mono h (fun v s₁ h₁ => spliced_none ⟨h₁.1 _ _ (G.fn a fd hfd).1, h₁.2⟩) fun _ _ x => x) hstar) hstar
/-- f(e₁, e₂), f a function of the text -/
theorem eval_call2 {f : Str} {p₁ p₂ : Pos} {e₁ e₂ : Expr} {a : Addr} {fd : FuncData} {Q : Value → Shared → Prop} (G : Gnd S) (hS : Sub S s.heap) (hf : gtab.lookup f = some a) (hfd : ftab.lookup a = some fd)
    (h : wpAny (model prog w) A (eval e₁ env) (fun v s₁ => wpAny (model prog w) A (eval e₂ env) (fun u s₂ => Sub S s₂.heap ∧ wpAny (model prog w) A (call (.ref a) [v, u]) Q E s₂) E s₁) E s)
    (hk : env.scope.kind = .function := by rfl) (hl : env.kindOf f = some .globalImplicit := by rfl) (hg : env.globals = mainGlobals := by rfl) (hd : (f == ("__debug__" : Str)) = false := by decide)
    (hstar : starEach [e₁, e₂] env = (false, eval e₁ env) :: starEach [e₂] env := by rfl) (hstar₂ : starEach [e₂] env = (false, eval e₂ env) :: starEach [] env := by rfl)
    (hev : eval (.Call (.Name f p₁) [e₁, e₂] [] p₂) env = (do
          let g ← eval (.Name f p₁) env
          callWith p₂ g [] (backTo p₂ (starEach [e₁, e₂] env)) (backToKw p₂ (keywordEach [] env))) := by rfl) :
    wpAny (model prog w) A (eval (.Call (.Name f p₁) [e₁, e₂] [] p₂) env) Q E s := by
  refine Call_ (ldG G hS hf ?_ hk hl hg hd) hev
  refine callWith_def_at (hS _ _ (G.fn a fd hfd).1) rfl (spliced_more (wpAny_mono h (fun v s₁ h₁ => spliced_more (wpAny_mono h₁ (fun u s₂ h₂ => spliced_none ⟨h₂.1 _ _ (G.fn a fd hfd).1, h₂.2⟩) fun _ _ x => x) hstar₂) fun _ _ x => x) hstar) hstar

/-- not in, over a list of ints -/
theorem notIn_nats {a : Addr} {vs : List Value} {ks : List Nat} {k : Nat} {t : Tok} {Q : Value → Shared → Prop} (hl : s.heap.IsList a vs.toArray) (hi : IntsAre vs (toZ ks)) (h : Q (.bool (!ks.contains k)) s) :
    wpAny (model prog w) A (compareOp .NotIn (.int k t) (.ref a)) Q E s := by
  refine notIn_listAt (fun y => match y with | .int i _ => i == (k : Int) | _ => false) hl (fun y hy => ?_) ?_
  · obtain ⟨n, t', rfl⟩ := hi.all y (by simpa using hy)
    exact EqAt.int_int _ _ _ _
  · have e : (vs.toArray.any fun y => match y with | .int i _ => i == (k : Int) | _ => false) = ks.contains k := by
      rw [List.any_toArray]
      clear hl h
      induction ks generalizing vs with
      | nil => rw [IntsAre.nil_inv hi]; rfl
      | cons j ks ih =>
        obtain ⟨t', vs', rfl, hi'⟩ := IntsAre.cons_inv hi
        rw [List.any_cons, ih hi', List.contains_cons]
        congr 1
        rw [Bool.eq_iff_iff]
        simp only [beq_iff_eq]
        omega
    rw [e]; exact h
end

abbrev xRow : Str := Str.ofString "row"
abbrev xKinds : Str := Str.ofString "kinds"
abbrev xPlaces : Str := Str.ofString "places"
abbrev xPlace : Str := Str.ofString "place"

section
variable {prog : Program} {w : World} {A : Around} {E : Value → Shared → Prop} {s : Shared} {env : Env} {S₀ : Heap} {s₀ : Shared} {B S : Heap} {L : Addr} {m : Str → Option Value}

/-- x = [] -/
theorem assign_nil {x : Str} {px p3 sp : Pos} {Q : Flow → Shared → Prop} (F : Frm S₀ s₀ B S L s m)
    (h : ∀ s' a, Frm S₀ s₀ B S L s' (upd m x (.ref a)) → Own S₀ B S L a → s'.heap.PlainList a #[] → s.heap.objs.size ≤ a → (∀ b o, b ≠ L → s.heap.get? b = some o → s'.heap.get? b = some o) → Q .next s')
    (hk : env.scope.kind = .function := by rfl) (hl : env.kindOf x = some .local := by rfl) (hL : env.locals = L := by rfl)
    (hsw : swapsWith (.List [] p3) (some (.Name x px)) sp.line env = pure false := by rfl) :
    wpAny (model prog w) A (exec (.Assign [.Name x px] (.List [] p3) sp) env) Q E s := by
  refine wpAny_Assign_Name ?_ hsw
  refine List_ ?_
  refine spliced_none ?_
  refine wpAny_newObj_type ?_ (sizeOk_seq (by simp))
  have hn := push_none s.heap
  have F1 := F.grow (h' := s.heap.push { cls := .type "list", data := .seq ([] : List Value).toArray }) (fun _ _ e => Heap.get?_push_of_some _ e) s.toks
  have O1 := F.fresh hn
  refine stL F1 (fun h₂ F₂ hk₂ => ?_) hk hl hL
  refine h _ _ F₂ O1 ⟨0, (hk₂ _ O1.ne).trans (Heap.get?_push_size _ rfl)⟩ (Nat.le_refl _) fun b o hb e => (hk₂ b hb).trans (Heap.get?_push_of_some _ e)
end

theorem dk_take_snoc {ks : List Nat} {i k : Nat} (hk : ks[i]? = some k) : dk (kinds (ks.take (i + 1))) = dk (kinds (ks.take i)) ++ (if (kinds (ks.take i)).contains (kindT k) then [] else [kindT k]) := by
  rw [take_snoc hk]
  simp only [kinds, List.map_append, List.map_cons, List.map_nil]
  rw [dk_snoc]
theorem fpl_take_snoc {ks : List Nat} {i k : Nat} (hk : ks[i]? = some k) (hi : i ≤ ks.length) : fpl (kinds (ks.take (i + 1))) = fpl (kinds (ks.take i)) ++ (if (kinds (ks.take i)).contains (kindT k) then [] else [i]) := by
  rw [take_snoc hk]
  simp only [kinds, List.map_append, List.map_cons, List.map_nil]
  rw [fpl_snoc]
  simp [List.length_take, Nat.min_eq_left hi]
theorem dk_contains (ks : List Nat) (k : Nat) : (dk ks).contains k = ks.contains k := by
  rw [Bool.eq_iff_iff, List.contains_iff_mem, List.contains_iff_mem]
  exact mem_dk ks k
theorem fpl_len (ks : List Nat) : (fpl ks).length ≤ ks.length := by
  have : (fpl ks).length ≤ (List.range ks.length).length := List.length_filter_le _ _
  simpa using this
theorem dk_len (ks : List Nat) : (dk ks).length ≤ ks.length := by
  unfold dk; rw [List.length_map]; exact fpl_len ks

section
variable {prog : Program} {w : World} {A : Around} {E : Value → Shared → Prop} {s : Shared}

set_option maxHeartbeats 1000000 in
theorem firsts_spec {S : Heap} {l : Addr} {ks : List Nat} {Q : Value → Shared → Prop} (G : Gnd S) (hS : Sub S s.heap) (hl : Row S l ks) (hks : ∀ k ∈ ks, k < 16) (hlen : ks.length ≤ 100)
    (hh : A.handled = none) (hdep : A.depth + 1 < recursionLimit)
    (h : ∀ S' s' a, Ext S s S' s' → Row S' a (fpl (kinds ks)) → Q (.ref a) s') : wpAny (model prog w) A (call (.ref 64) [.ref l]) Q E s := by
  obtain ⟨vs, hpl, hi⟩ := hl
  have hlv : vs.length = ks.length := by rw [hi.length]; simp
  refine call_fn (fd := fdFirsts) (body := bodyOf 8) (binds := [(xRow, .ref l)]) G hS rfl rfl (by omega) (BindsTo.of_eq rfl) (locs rfl) ?_
  intro s₁ F
  refine wpAny_execs_cons (assign_nil F fun s₂ a F₂ O₂ hp₂ hge₂ hk₂ => ?_)
  refine wpAny_execs_cons (assign_nil F₂ fun s₃ b F₃ O₃ hp₃ hge₃ hk₃ => ?_)
  have hab : a ≠ b := by
    rintro rfl
    obtain ⟨n, e⟩ := hp₂
    exact absurd (Heap.lt_size e) (Nat.not_lt.mpr hge₃)
  have hp₂' : s₃.heap.PlainList a #[] := hp₂.at fun o e => hk₃ a o O₂.ne e
  refine wpAny_execs_cons ?_
  refine wpAny_For ?_
  refine Call_ ?_
  refine ldB G F₃.sub (v := .type "enumerate") rfl ?_
  refine PyProof.Rows.callWith_type1 (spliced_more (ldL F₃ (v := .ref l) rfl (spliced_none ?_)))
  refine for_enum F₃ hh hpl [a, b] (fun i S h m => m xKinds = some (.ref a) ∧ m xPlaces = some (.ref b) ∧ Row h a (dk (kinds (ks.take i))) ∧ Row h b (fpl (kinds (ks.take i)))) ⟨rfl, rfl, ⟨[], hp₂', .nil⟩, ⟨[], hp₃, .nil⟩⟩
    (fun i S h h' m hj hk => ⟨hj.1, hj.2.1, hj.2.2.1.at fun o e => hk a (by simp) o e, hj.2.2.2.at fun o e => hk b (by simp) o e⟩) (fun c hc => ?_) ?_ ?_
  · simp only [List.mem_cons, List.mem_nil_iff, or_false] at hc
    rcases hc with rfl | rfl
    · obtain ⟨n, e⟩ := hp₂'; exact ⟨O₂, _, e⟩
    · obtain ⟨n, e⟩ := hp₃; exact ⟨O₃, _, e⟩
  · intro i B₁ S₁ s₄ m₁ v t hv hSS F₄ hJ hO
    obtain ⟨hJ1, hJ2, ⟨va, ra, ia⟩, ⟨vb, rb, ib⟩⟩ := hJ
    obtain ⟨n, tn, rfl, hn⟩ := hi.at i v (by simpa using hv)
    obtain ⟨k, hk, rfl⟩ : ∃ k, ks[i]? = some k ∧ (k : Int) = n := by
      simp only [toZ, List.getElem?_map, Option.map_eq_some_iff] at hn
      exact hn
    have hk16 : k < 16 := hks k (List.mem_of_getElem? hk)
    have hlt : i < ks.length := by
      rcases Nat.lt_or_ge i ks.length with q | q
      · exact q
      · rw [List.getElem?_eq_none q] at hk; cases hk
    have G₁ := G.mono hSS
    refine wpAny_execs_cons ?_
    refine wpAny_If ?_
    refine wpAny_isTrue_Compare1 ?_
    refine eval_call1 G₁ F₄.sub (a := 50) rfl rfl (ldL F₄ (v := .int k tn) rfl ⟨F₄.sub, ?_⟩)
    refine kind_spec G₁ F₄.sub hk16 hdep fun s₅ t₅ x₅ => ?_
    have F₅ := F₄.after x₅
    refine ldL F₅ (v := .ref a) hJ1 ?_
    refine notIn_nats (plain_sub ra x₅.keep).isList ia (wpAny_truthy_bool ?_)
    rw [dk_contains]
    have e1 := dk_take_snoc hk
    have e2 := fpl_take_snoc hk (by omega)
    cases hc : (kinds (ks.take i)).contains (kindT k) with
    | true =>
      rw [hc] at e1 e2
      simp only [Bool.not_true, Bool.false_eq_true, if_false]
      refine wpAny_execs_nil (wpAny_execs_nil ⟨S₁, _, fun _ _ e => e, F₅, ⟨hJ1, hJ2, ?_, ?_⟩, hO⟩)
      · rw [e1]; simp only [if_true, List.append_nil]; exact ⟨va, plain_sub ra x₅.keep, ia⟩
      · rw [e2]; simp only [if_true, List.append_nil]; exact ⟨vb, plain_sub rb x₅.keep, ib⟩
    | false =>
      rw [hc] at e1 e2
      simp only [Bool.not_false, if_true]
      have la : va.length ≤ 100 := by
        have h1 := dk_len (kinds (ks.take i))
        have h2 : va.length = (dk (kinds (ks.take i))).length := by rw [ia.length]; simp
        have h3 : (kinds (ks.take i)).length ≤ ks.length := by simp only [kinds, List.length_map, List.length_take]; omega
        omega
      have lb : vb.length ≤ 100 := by
        have h1 := fpl_len (kinds (ks.take i))
        have h2 : vb.length = (fpl (kinds (ks.take i))).length := by rw [ib.length]; simp
        have h3 : (kinds (ks.take i)).length ≤ ks.length := by simp only [kinds, List.length_map, List.length_take]; omega
        omega
      refine wpAny_execs_cons (exec_append F₅ (a := a) hJ1 (plain_sub ra x₅.keep) (by simp only [List.size_toArray]; omega) ?_)
      refine eval_call1 G₁ F₅.sub (a := 50) rfl rfl (ldL F₅ (v := .int k tn) rfl ⟨F₅.sub, ?_⟩)
      refine kind_spec G₁ F₅.sub hk16 hdep fun s₆ t₆ x₆ => ?_
      have F₆ := F₅.after x₆
      refine ⟨S₁, F₆, hO a (by simp), plain_sub (plain_sub ra x₅.keep) x₆.keep, fun h₇ F₇ hp₇ hk₇ => ?_⟩
      have rb₇ : h₇.PlainList b vb.toArray := (plain_sub (plain_sub rb x₅.keep) x₆.keep).at fun o e => (hk₇ b hab.symm).trans e
      refine wpAny_execs_cons (exec_append F₇ (a := b) hJ2 rb₇ (by simp only [List.size_toArray]; omega) ?_)
      refine ldL F₇ (v := .int i t) rfl ⟨S₁, F₇, hO b (by simp), rb₇, fun h₈ F₈ hp₈ hk₈ => ?_⟩
      refine wpAny_execs_nil (wpAny_execs_nil ⟨S₁, _, fun _ _ e => e, F₈, ⟨hJ1, hJ2, ?_, ?_⟩, hO⟩)
      · rw [e1]
        refine ⟨va ++ [.int (kindT k) t₆], by simpa using (hp₇.at fun o e => (hk₈ a hab).trans e : h₈.PlainList a _), ?_⟩
        simp only [Bool.false_eq_true, if_false, toZ, List.map_append, List.map_cons, List.map_nil]
        exact IntsAre.append ia (.cons _ _ .nil)
      · rw [e2]
        refine ⟨vb ++ [.int i t], by simpa using hp₈, ?_⟩
        simp only [Bool.false_eq_true, if_false, toZ, List.map_append, List.map_cons, List.map_nil]
        exact IntsAre.append ib (.cons _ _ .nil)
  · intro S₁ s₄ m₁ hSS F₄ hJ hO
    obtain ⟨hJ1, hJ2, _, ⟨vb, rb, ib⟩⟩ := hJ
    rw [show vs.toArray.size = ks.length from by simp [hlv], List.take_length] at ib
    refine wpAny_execs_cons (wpAny_Return_some (ldL F₄ (v := .ref b) hJ2 ?_))
    obtain ⟨S', x, _, hf⟩ := F₄.freeze
    exact h S' s₄ b x ⟨vb, rb.at fun o e => (hf b (hO b (by simp)).offB).trans e, ib⟩
end
end Mine

namespace Mine
open PySem.SeqAt PySem.MeetsSeq

def typT : Nat → String
  | 0 => "int" | 1 => "bool" | 2 => "int" | 3 => "bool" | 4 => "int" | 5 => "str" | 6 => "str" | 7 => "NoneType" | 8 => "tuple" | 9 => "tuple" | 10 => "list" | 11 => "list" | 12 => "dict" | 13 => "dict" | 14 => "tuple" | _ => "list"

theorem TAt.type {s : Shared} {v : Value} {k : Nat} (x : TAt s.heap v k) : s.TypeIs v (typT k) := by
  cases x with
  | i0 t => exact typeIs_int _ _ _
  | f => rfl
  | i1 t => exact typeIs_int _ _ _
  | t => rfl
  | i2 t => exact typeIs_int _ _ _
  | sa t => exact typeIs_str _ _ _
  | se t => exact typeIs_str _ _ _
  | n => rfl
  | tu1 e => exact ⟨_, e, rfl⟩
  | tuT e => exact ⟨_, e, rfl⟩
  | l1 e => exact ⟨_, e, rfl⟩
  | lT e => exact ⟨_, e, rfl⟩
  | d1 e d => exact ⟨_, e, rfl⟩
  | dT e d => exact ⟨_, e, rfl⟩
  | tl e d => exact ⟨_, e, rfl⟩
  | le e => exact ⟨_, e, rfl⟩

theorem typT_nb : ∀ k < 16, (Value.type (typT k) == Value.type "builtin_function_or_method") = false := by decide +kernel

theorem meta_typT : ∀ (k : Nat) (s' : Shared), s'.TypeIs (.type (typT k)) "type" := fun k s' => by
  unfold typT
  revert s'; split <;> pv_meta

theorem eqAt_type {A : Around} {s : Shared} {X Y : String} (hX : ∀ s' : Shared, s'.TypeIs (.type X) "type") (hY : ∀ s' : Shared, s'.TypeIs (.type Y) "type") : EqAt A s (.type X) (.type Y) (X == Y) := fun prog w E Q h => by
  unfold eqBool
  refine wpAny_holding ?_
  by_cases hxy : X = Y
  · subst hxy
    rw [if_pos (by simp)]
    exact wpAny_bind (wpAny_rule (wpAny_pure (by simpa using h)))
  · have hb : (Value.type X == Value.type Y) = false := by simpa using hxy
    rw [if_neg (by rw [hb]; exact Bool.false_ne_true)]
    have hf : (X == Y) = false := by simpa using hxy
    rw [hf] at h
    exact wpAny_bind (TypeEq.eq_type_other hX hY hb (wpAny_truthy_bool h))

section
variable {prog : Program} {w : World} {A : Around} {E : Value → Shared → Prop} {s : Shared}

theorem ne_self {v : Value} {k : Nat} {Q : Value → Shared → Prop} (x : TAt s.heap v k) (hu : A.units + 4 < cLine) (h : Q (.bool false) s) : wpAny (model prog w) A (compareOp .NotEq v v) Q E s := by
  cases hk : isD k with
  | false =>
    obtain ⟨as, r⟩ := x.reads hk
    have c := canLay_data k x.lt hk
    refine neOverData prog w A E s v v _ _ as as Q r r c.1 c.1 (by omega) ?_
    rw [eqv_kind k x.lt k x.lt hk hk]
    simpa using h
  | true =>
    obtain ⟨a, hs, t, u, n, rfl, ho, ha, _⟩ := x.dict hk
    exact ne_dict_self ha ho (by omega) h

theorem type_call {env : Env} {S : Heap} {p₁ p₂ : Pos} {e : Expr} {Q : Value → Shared → Prop} (G : Gnd S) (hS : Sub S s.heap)
    (h : wpAny (model prog w) A (eval e env) (fun v s₁ => ∃ T, s₁.TypeIs v T ∧ (Value.type T == Value.type "builtin_function_or_method") = false ∧ Q (.type T) s₁) E s)
    (hk : env.scope.kind = .function := by rfl) (hl : env.kindOf (Str.ofString "type") = some .globalImplicit := by rfl) (hg : env.globals = mainGlobals := by rfl) (hb : env.builtins = builtinsNs := by rfl)
    (hstar : starEach [e] env = (false, eval e env) :: starEach [] env := by rfl)
    (hev : eval (.Call (.Name (Str.ofString "type") p₁) [e] [] p₂) env = (do
          let g ← eval (.Name (Str.ofString "type") p₁) env
          callWith p₂ g [] (backTo p₂ (starEach [e] env)) (backToKw p₂ (keywordEach [] env))) := by rfl) :
    wpAny (model prog w) A (eval (.Call (.Name (Str.ofString "type") p₁) [e] [] p₂) env) Q E s := by
  refine Call_ (ldB G hS (v := .type "type") rfl ?_ hk hl hg hb) hev
  refine PyProof.Rows.callWith_type1 (spliced_more (wpAny_mono h (fun v s₁ h₁ => spliced_none ?_) fun _ _ x => x) hstar) hstar rfl
  obtain ⟨T, hT, hnb, hq⟩ := h₁
  exact call_type_of hT hnb hq

theorem isNot_type {T : String} {Q : Value → Shared → Prop} (h : Q (.bool false) s) : wpAny (model prog w) A (compareOp .IsNot (.type T) (.type T)) Q E s := by
  have e : compareOp .IsNot (.type T) (.type T) = pure (.bool false) := by
    show (do return .bool (!(← isSame (.type T) (.type T))) : Sem Value) = _
    have : isSame (.type T) (.type T) = pure true := by
      show (pure (Value.type T == Value.type T) : Sem Bool) = pure true
      simp
    rw [this]; rfl
  exact wpAny_of_eq e h
theorem isNot_ref {a : Addr} {Q : Value → Shared → Prop} (h : Q (.bool false) s) : wpAny (model prog w) A (compareOp .IsNot (.ref a) (.ref a)) Q E s := by
  have e : compareOp .IsNot (.ref a) (.ref a) = pure (.bool false) := by
    show (do return .bool (!(← isSame (.ref a) (.ref a))) : Sem Value) = _
    have : isSame (.ref a) (.ref a) = pure true := by
      show (if (a == a) = true then pure true else _ : Sem Bool) = pure true
      simp
    rw [this]; rfl
  exact wpAny_of_eq e h
end
end Mine

namespace Mine
open PySem.SeqAt PySem.MeetsSeq

section
variable {prog : Program} {w : World} {A : Around} {E : Value → Shared → Prop} {s : Shared} {env : Env} {S₀ : Heap} {s₀ : Shared} {B S : Heap} {L : Addr} {m : Str → Option Value}

/-- a change at several objects of its own, and new objects -/
theorem Frm.updAll {h' : Heap} (F : Frm S₀ s₀ B S L s m) (W : List Addr) (O : ∀ a ∈ W, Own S₀ B S L a) (hs : ∀ b o, b ∉ W → s.heap.get? b = some o → h'.get? b = some o) (tk : Nat) : Frm S₀ s₀ B S L { s with heap := h', toks := tk } m := by
  obtain ⟨h, t, rfl⟩ := F.st
  refine ⟨⟨h', tk, rfl⟩, F.base, fun b o e => hs b o (fun q => ?_) (F.keep b o e), F.le, fun b o e => hs b o (fun q => ?_) (F.sub b o e), F.new, F.ns.at fun o e => hs L o (fun q => (O L q).ne rfl) e, F.offB, F.off⟩
  · rw [(O b q).offB] at e; cases e
  · rw [(O b q).off] at e; cases e

/-- for x1, x2 in zip(l1, l2), both lists with the same items -/
theorem for_zip {R : Result → Shared → Prop} {x₁ x₂ : Str} {p₁ p₂ p : Pos} {k} {body : List Stmt} {l₁ l₂ : Addr} {items : Array Value} (F : Frm S₀ s₀ B S L s m)
    (hh : A.handled = none) (hl₁ : S.IsList l₁ items) (hl₂ : S.IsList l₂ items) (J : Nat → Heap → Heap → (Str → Option Value) → Prop)
    (hJ : J 0 S s.heap m) (hJf : ∀ i S h h' m, J i S h m → J i S h' m)
    (turn : ∀ i B₁ S₁ s₁ m₁ v, items[i]? = some v → Sub S S₁ → Frm S₀ s₀ B₁ S₁ L s₁ (upd (upd m₁ x₁ v) x₂ v) → J i S₁ s₁.heap m₁ →
      wpAny (model prog w) A (execs body env) (fun f s₂ => match f with
        | .next | .cont => ∃ S₂ m₃, Sub S₁ S₂ ∧ Frm S₀ s₀ B₁ S₂ L s₂ m₃ ∧ J (i + 1) S₂ s₂.heap m₃
        | .brk => R (.ok .next) s₂
        | .ret v => R (.ok (.ret v)) s₂) (notedBy (model prog w) A env fun e s' => R (.error e) s') s₁)
    (fin : ∀ S₁ s₁ m₁, Sub S S₁ → Frm S₀ s₀ B S₁ L s₁ m₁ → J items.size S₁ s₁.heap m₁ → R (.ok .next) s₁)
    (hk : env.scope.kind = .function := by rfl) (hx₁ : env.kindOf x₁ = some .local := by rfl) (hx₂ : env.kindOf x₂ = some .local := by rfl) (hL : env.locals = L := by rfl) :
    wpAny (model prog w) A (call (.type "zip") [.ref l₁, .ref l₂]) (fun e s₁ => wpAny (model prog w) A (pyIter e) (fun it s₂ => codeAny (model prog w) A (.forLoop (.Tuple [.Name x₁ p₁, .Name x₂ p₂] k p) it body [] env) R s₂) E s₁) E s := by
  refine call_zip_2 (isList_sub hl₁ F.sub) (isList_sub hl₂ F.sub) fun h₁ hz hTI hTO hi1 hi2 hsz₁ hk₁ => ?_
  refine wpAny_pyIter_zip hz ?_
  have F₁ := F.grow hk₁ s.toks
  have ge : ∀ j, s.heap.get? (s.heap.objs.size + j) = none := fun j => get?_none_of_size (fun _ _ e => e) (Nat.le_add_right _ _)
  have hO : ∀ b ∈ [s.heap.objs.size + 4, s.heap.objs.size + 2, s.heap.objs.size + 3, s.heap.objs.size, s.heap.objs.size + 1], Own S₀ B S L b := fun b hb => by
    simp only [List.mem_cons, List.mem_nil_iff, or_false] at hb
    rcases hb with rfl | rfl | rfl | rfl | rfl
    · exact F.fresh (ge 4)
    · exact F.fresh (ge 2)
    · exact F.fresh (ge 3)
    · exact F.fresh (ge 0)
    · exact F.fresh (ge 1)
  have lt₁ : l₁ < s.heap.objs.size := by obtain ⟨o, ho, _⟩ := isList_sub hl₁ F.sub; exact Heap.lt_size ho
  have lt₂ : l₂ < s.heap.objs.size := by obtain ⟨o, ho, _⟩ := isList_sub hl₂ F.sub; exact Heap.lt_size ho
  have D : ZipApart (s.heap.objs.size + 4) (s.heap.objs.size + 2) (s.heap.objs.size + 3) s.heap.objs.size (s.heap.objs.size + 1) l₁ l₂ := by
    have a1 : @LT.lt Nat _ l₁ s.heap.objs.size := lt₁
    have a2 : @LT.lt Nat _ l₂ s.heap.objs.size := lt₂
    constructor <;> (refine neN ?_; omega)
  generalize s.heap.objs.size + 4 = z at *
  generalize s.heap.objs.size + 2 = TI at *
  generalize s.heap.objs.size + 3 = TO at *
  generalize s.heap.objs.size + 1 = i2 at *
  generalize s.heap.objs.size = i1 at *
  refine for_gen F₁ [z, TI, TO, i1, i2] [] items.size
    (fun i h => ∃ a b, IsZip h z TI TO .none ∧ IsPair h TI (.ref i1) (.ref i2) ∧ IsPair h TO a b ∧ h.IsListIter i1 l₁ i ∧ h.IsListIter i2 l₂ i ∧ h.IsList l₁ items ∧ h.IsList l₂ items)
    (fun i m₁ m₂ => ∃ v, items[i]? = some v ∧ m₂ = upd (upd m₁ x₁ v) x₂ v) J
    ⟨.none, .none, hz, hTI, hTO, hi1, hi2, isList_sub hl₁ F₁.sub, isList_sub hl₂ F₁.sub⟩ hO (fun i h hs b hb => ?_) (fun i h h' hs hk hS => ?_) ?_ ?_
    (hJf _ _ _ _ _ hJ) (fun i S h h' m hj _ => hJf i S h h' m hj) (fun a ha => by simp at ha) ?_ (fun S₁ s₁ m₁ a b c _ => fin S₁ s₁ m₁ a b c)
  · obtain ⟨a, b', a1, a2, a3, ⟨o4, h4, _⟩, ⟨o5, h5, _⟩, _⟩ := hs
    simp only [List.mem_cons, List.mem_nil_iff, or_false] at hb
    rcases hb with rfl | rfl | rfl | rfl | rfl
    · exact ⟨_, a1⟩
    · exact ⟨_, a2⟩
    · exact ⟨_, a3⟩
    · exact ⟨_, h4⟩
    · exact ⟨_, h5⟩
  · obtain ⟨a, b, a1, a2, a3, a4, a5, _, _⟩ := hs
    exact ⟨a, b, hk z (by simp) _ a1, hk TI (by simp) _ a2, hk TO (by simp) _ a3, a4.at fun o q => hk i1 (by simp) o q, a5.at fun o q => hk i2 (by simp) o q, isList_sub hl₁ hS, isList_sub hl₂ hS⟩
  · intro i S₁ s₁ m₁ Q E' hi hSS F₂ hW ⟨a, b, a1, a2, a3, a4, a5, a6, a7⟩ hQ
    have hv : items[i]? = some items[i] := by simp [hi]
    refine wpAny_pyNext_zip_item D a1 a2 a3 a4 a5 a6 a7 hv hv fun h₂ b1 b2 b3 b4 b5 b6 b7 => ?_
    show wpAny _ _ (letOwnedTupleGo _ _ _) _ _ _
    refine wpAny_letOwnedTupleGo_zip b1 fun h₃ c1 c2 => ?_
    replace c2 : Heap.SameBut z h₂ h₃ := c2
    have hzH : z < s₁.heap.objs.size := Heap.lt_size a1
    have ht₃ : h₃.IsTuple s₁.heap.objs.size #[items[i], items[i]] := ⟨_, (c2.2 _ (Nat.ne_of_gt hzH)).trans b5, rfl, _, rfl⟩
    have kk : ∀ b o, b ∉ [z, TI, TO, i1, i2] → s₁.heap.get? b = some o → h₃.get? b = some o := fun b o hb q => by
      simp only [List.mem_cons, List.mem_nil_iff, or_false, not_or] at hb
      exact c2.extBut b o hb.1 (b7 b o hb.1 hb.2.2.1 hb.2.2.2.1 hb.2.2.2.2 q)
    have F₃ := F₂.updAll [z, TI, TO, i1, i2] hW kk s₁.toks
    refine assign_pair F₃ hh ht₃ (fun s₄ F₄ hk₄ => ?_) hk hx₁ hx₂ hL
    refine hQ s₄ _ F₄ ⟨_, hv, rfl⟩ ⟨items[i], items[i], ?_, ?_, ?_, ?_, ?_, isList_sub hl₁ fun b o q => F₄.sub b o (hSS b o q), isList_sub hl₂ fun b o q => F₄.sub b o (hSS b o q)⟩ fun b o hb hbL q => hk₄ b o hbL (kk b o hb q)
    · exact hk₄ z _ (hW z (by simp)).ne c1
    · exact hk₄ TI _ (hW TI (by simp)).ne (c2.extBut TI _ D.TIz (b7 TI _ D.TIz D.TITO D.TIi1 D.TIi2 a2))
    · exact hk₄ TO _ (hW TO (by simp)).ne (c2.extBut TO _ D.TOz b2)
    · exact (b3.extBut c2.extBut D.i1z).at fun o q => hk₄ i1 o (hW i1 (by simp)).ne q
    · exact (b4.extBut c2.extBut D.i2z).at fun o q => hk₄ i2 o (hW i2 (by simp)).ne q
  · intro S₁ s₁ m₁ Q E' hSS F₂ hW ⟨a, b, a1, a2, a3, a4, a5, a6, a7⟩ hQ
    refine wpAny_pyNext_zip_end hh D a1 a2 a3 a4 a5 a6 a7 (.inl (by simp)) fun h' hx => ?_
    have kk : ∀ b o, b ∉ [z, TI, TO, i1, i2] → s₁.heap.get? b = some o → h'.get? b = some o := fun b o hb q => by
      simp only [List.mem_cons, List.mem_nil_iff, or_false, not_or] at hb
      exact hx b o hb.1 hb.2.2.1 hb.2.2.2.1 hb.2.2.2.2 q
    exact hQ _ (F₂.updAll [z, TI, TO, i1, i2] hW kk s₁.toks) kk
  · rintro i B₁ S₁ s₁ m₁ m₂ hi hSS F₁ ⟨v, hv, rfl⟩ hJ₁ hO₁
    refine wpAny_mono (turn i B₁ S₁ s₁ m₁ v hv hSS F₁ hJ₁) (fun f s₂ h => ?_) fun _ _ e => e
    cases f with
    | next => obtain ⟨S₂, m₃, a1, a2, a3⟩ := h; exact ⟨S₂, m₃, a1, a2, a3, fun a ha => by simp at ha⟩
    | cont => obtain ⟨S₂, m₃, a1, a2, a3⟩ := h; exact ⟨S₂, m₃, a1, a2, a3, fun a ha => by simp at ha⟩
    | brk => exact h
    | ret v => exact h
end
end Mine

namespace Mine
open PySem.SeqAt PySem.MeetsSeq

abbrev xTold : Str := Str.ofString "told"
abbrev xDue : Str := Str.ofString "due"
abbrev xOne : Str := Str.ofString "one"
abbrev xOther : Str := Str.ofString "other"

section
variable {prog : Program} {w : World} {A : Around} {E : Value → Shared → Prop} {s : Shared} {env : Env} {S₀ : Heap} {s₀ : Shared} {B S : Heap} {L : Addr} {m : Str → Option Value}

/-- len(x) -/
theorem len_call {x : Str} {p₁ p₂ p₃ : Pos} {l : Addr} {items : Array Value} {Q : Value → Shared → Prop} (G : Gnd S) (F : Frm S₀ s₀ B S L s m) (hv : m x = some (.ref l)) (hl : s.heap.IsList l items) (hsz : items.size ≤ 1000)
    (h : ∀ s' t, Frm S₀ s₀ B S L s' m → s'.heap = s.heap → Q (.int items.size t) s')
    (hk : env.scope.kind = .function := by rfl) (hlx : env.kindOf x = some .local := by rfl) (hL : env.locals = L := by rfl) (hd : (x == ("__debug__" : Str)) = false := by decide)
    (hlen : env.kindOf (Str.ofString "len") = some .globalImplicit := by rfl) (hg : env.globals = mainGlobals := by rfl) (hb : env.builtins = builtinsNs := by rfl)
    (hev : eval (.Call (.Name (Str.ofString "len") p₁) [.Name x p₂] [] p₃) env = (do
          let g ← eval (.Name (Str.ofString "len") p₁) env
          callWith p₃ g [] (backTo p₃ (starEach [.Name x p₂] env)) (backToKw p₃ (keywordEach [] env))) := by rfl) :
    wpAny (model prog w) A (eval (.Call (.Name (Str.ofString "len") p₁) [.Name x p₂] [] p₃) env) Q E s := by
  refine Call_ (ldB G F.sub (v := .builtin "len") rfl ?_ hk hlen hg hb) hev
  refine PyProof.Rows.callWith_builtin1 (spliced_more (ldL F hv (spliced_none ?_) hk hlx hL hd) rfl) rfl rfl
  exact len_list hl (by omega) (h _ _ ((F.toks _).toks _) rfl)
end

section
variable {prog : Program} {w : World} {A : Around} {E : Value → Shared → Prop} {s : Shared}

theorem typT_in : ∀ k < 16, ((("list" : String) == typT k) || ("dict" == typT k)) = (isD k || (k == 10 || k == 11 || k == 15)) := by decide +kernel

theorem TAt.is_ref {h : Heap} {v : Value} {k : Nat} (x : TAt h v k) (hk : (isD k || (k == 10 || k == 11 || k == 15)) = true) : ∃ a, v = .ref a := by
  cases x <;> first | exact ⟨_, rfl⟩ | (exfalso; revert hk; decide)

set_option maxHeartbeats 1000000 in
theorem same_spec {S : Heap} {l₁ l₂ : Addr} {vs : List Value} {ks : List Nat} {Q : Value → Shared → Prop} (G : Gnd S) (hS : Sub S s.heap) (hl₁ : S.IsList l₁ vs.toArray) (hl₂ : S.IsList l₂ vs.toArray) (ht : Ths S vs ks)
    (hlen : vs.length ≤ 1000) (hh : A.handled = none) (hdep : A.depth < recursionLimit) (hu : A.units + 20 < cLine)
    (h : ∀ s', Ext S s S s' → Q (.bool true) s') : wpAny (model prog w) A (call (.ref 71) [.ref l₁, .ref l₂]) Q E s := by
  refine call_fn (fd := fdSame) (body := bodyOf 9) (binds := [(xTold, .ref l₁), (xDue, .ref l₂)]) G hS rfl rfl hdep (BindsTo.of_eq rfl) (locs rfl) ?_
  intro s₁ F
  refine wpAny_execs_cons ?_
  refine wpAny_If ?_
  refine wpAny_isTrue_Compare1 ?_
  refine len_call G F (l := l₁) rfl (isList_sub hl₁ F.sub) (by simpa using hlen) fun s₂ t₂ F₂ e₂ => ?_
  refine len_call G F₂ (l := l₂) rfl (isList_sub hl₂ F₂.sub) (by simpa using hlen) fun s₃ t₃ F₃ e₃ => ?_
  refine ne_int (wpAny_truthy_bool ?_)
  simp only [bne_self_eq_false, Bool.false_eq_true, if_false]
  refine wpAny_execs_nil ?_
  refine wpAny_execs_cons ?_
  refine wpAny_For ?_
  refine Call_ ?_
  refine ldB G F₃.sub (v := .type "zip") rfl ?_
  refine PyProof.Rows.callWith_type1 ?_
  refine spliced_more (ldL F₃ (v := .ref l₁) rfl ?_)
  refine spliced_more (ldL F₃ (v := .ref l₂) rfl ?_)
  refine spliced_none ?_
  refine for_zip F₃ hh hl₁ hl₂ (fun i S' h m => True) trivial (fun _ _ _ _ _ _ => trivial) ?_ ?_
  · intro i B₁ S₁ s₄ m₁ v hv hSS F₄ _
    obtain ⟨k, hk, hT⟩ := (ht.mono hSS).get (by simpa using hv)
    have G₁ := G.mono hSS
    refine wpAny_execs_cons ?_
    refine wpAny_If ?_
    refine isTrue_or ?_
    refine wpAny_isTrue_Compare1 ?_
    refine type_call G₁ F₄.sub (ldL F₄ (v := v) rfl ⟨typT k, (hT.mono F₄.sub).type, typT_nb k hT.lt, ?_⟩)
    refine type_call G₁ F₄.sub (ldL F₄ (v := v) rfl ⟨typT k, (hT.mono F₄.sub).type, typT_nb k hT.lt, ?_⟩)
    refine isNot_type (wpAny_truthy_bool ?_)
    simp only [Bool.false_eq_true, if_false]
    refine isTrue_or ?_
    refine wpAny_isTrue_Compare1 (ldL F₄ (v := v) rfl (ldL F₄ (v := v) rfl ?_))
    refine ne_self (hT.mono F₄.sub) (by simp only [Around.deeper_units]; omega) (wpAny_truthy_bool ?_)
    simp only [Bool.false_eq_true, if_false]
    refine isTrue_or ?_
    refine isTrue_and ?_
    refine wpAny_isTrue_Compare1 ?_
    refine type_call G₁ F₄.sub (ldL F₄ (v := v) rfl ⟨typT k, (hT.mono F₄.sub).type, typT_nb k hT.lt, ?_⟩)
    refine List_ ?_
    refine spliced_more (ldB G₁ F₄.sub (v := .type "list") rfl ?_)
    refine spliced_more (ldB G₁ F₄.sub (v := .type "dict") rfl ?_)
    refine spliced_none ?_
    refine new_frozen F₄ (sizeOk_seq (by simp)) rfl fun S₅ s₅ a F₅ hs₅ hg ha => ?_
    refine in_listAt (fun y => y == .type (typT k)) ⟨_, F₅.sub _ _ hg, rfl, _, rfl⟩ (fun y hy => ?_) (wpAny_truthy_bool ?_)
    · simp only [List.mem_toArray, List.mem_cons, List.mem_nil_iff, or_false] at hy
      rcases hy with rfl | rfl
      · have := eqAt_type (A := (A.deeper (callEnv fdSame s.heap.objs.size 71)).in1) (s := s₅) TypeEq.meta_list (meta_typT k)
        have e : ((Value.type "list" == Value.type (typT k)) : Bool) = ("list" == typT k) := by
          rw [Bool.eq_iff_iff]; simp
        rw [e]; exact this
      · have := eqAt_type (A := (A.deeper (callEnv fdSame s.heap.objs.size 71)).in1) (s := s₅) TypeEq.meta_dict (meta_typT k)
        have e : ((Value.type "dict" == Value.type (typT k)) : Bool) = ("dict" == typT k) := by
          rw [Bool.eq_iff_iff]; simp
        rw [e]; exact this
    · have e : ([Value.type "list", Value.type "dict"].toArray.any fun y => y == .type (typT k)) = (isD k || (k == 10 || k == 11 || k == 15)) := by
        rw [← typT_in k hT.lt, List.any_toArray]
        simp only [List.any_cons, List.any_nil, Bool.or_false]
        congr 1 <;> (rw [Bool.eq_iff_iff]; simp)
      rw [e]
      cases hc : (isD k || (k == 10 || k == 11 || k == 15)) with
      | false =>
        simp only [Bool.false_eq_true, if_false]
        refine isTrue_or_nil ?_
        simp only [Bool.false_eq_true, if_false]
        exact wpAny_execs_nil (wpAny_execs_nil ⟨S₅, _, hs₅, F₅, trivial⟩)
      | true =>
        obtain ⟨b, rfl⟩ := hT.is_ref hc
        simp only [if_true]
        refine isTrue_and ?_
        refine wpAny_isTrue_Compare1 (ldL F₅ (v := .ref b) rfl (ldL F₅ (v := .ref b) rfl ?_))
        refine isNot_ref (wpAny_truthy_bool ?_)
        simp only [Bool.false_eq_true, if_false]
        refine isTrue_or_nil ?_
        simp only [Bool.false_eq_true, if_false]
        exact wpAny_execs_nil (wpAny_execs_nil ⟨S₅, _, hs₅, F₅, trivial⟩)
  · intro S₁ s₄ m₁ hSS F₄ _
    refine wpAny_execs_cons (wpAny_Return_some (wpAny_Constant_bool ?_))
    have x := F₄.ext
    exact h s₄ ⟨x.st, x.keep, fun _ _ e => e, fun b o e => x.keep b o (hS b o e), fun _ _ _ => rfl⟩
end
end Mine

namespace Mine
open PySem.SeqAt PySem.MeetsSeq
open AutoSeq1 (wpAny_loadPart')

theorem remove_at (l : Addr) (items : Array Value) (n : Nat) (x : Value) (e : Value → Bool) (j : Nat) (hj : j < items.size) (hit : e items[j] = true) (k : Nat) (hs1 : items.size ≤ sizeLine) :
    ∀ i : Nat, j - i = k → i ≤ j → (∀ m (hm : m < items.size), i ≤ m → m < j → e items[m] = false) → Meets (Builtin.«list.remove.loop» ⟨[.ref l, x, rawInt i], []⟩)
      (fun A R s => s.heap.get? l = some { cls := .type "list", dict := none, data := .seq items n, slots := #[] } ∧ (∀ y, y ∈ items → EqAt A.in1 s y x (e y)) ∧ R (.ok (.ret .none)) { s with heap := s.heap.update l (Obj.mapSeq fun xs => xs.eraseIdxIfInBounds j) }) := by
  induction k with
  | zero =>
    intro i hk hij hno prog w A R s h
    obtain ⟨hp, g, d, tk, os⟩ := s; obtain ⟨hl, he, h⟩ := h
    have hij' : i = j := by omega
    subst hij'
    wp_walk using wpAny_loadPart' hl
    have hi : items[((i : Nat) : Int).toNat]? = some items[i] := by simp [hj]
    rw [hi]
    refine wpAny_bind (he _ (Array.getElem_mem hj) prog w _ _ ?_)
    rw [hit]
    have hz' : (items.eraseIdxIfInBounds i).size ≤ sizeLine + 1 := Nat.le_trans (size_erased items _) (Nat.le_succ_of_le hs1)
    wp_walk using (wpAny_updateSeq hl rfl (hz := hs1) (_hz' := hz')), wpAny_loadPart' hl
    simpa using h
  | succ k ih =>
    intro i hk hij hno prog w A R s h
    obtain ⟨hp, g, d, tk, os⟩ := s; obtain ⟨hl, he, h⟩ := h
    have hlt : i < items.size := by omega
    wp_walk using wpAny_loadPart' hl
    have hi : items[((i : Nat) : Int).toNat]? = some items[i] := by simp [hlt]
    have hc : ((i : Int) + 1) = ((i + 1 : Nat) : Int) := by push_cast; rfl
    rw [hi]
    refine wpAny_bind (he _ (Array.getElem_mem hlt) prog w _ _ ?_)
    rw [hno i hlt (Nat.le_refl _) (by omega)]
    wp_walk
    rw [hc]
    exact ⟨plainId_quiet plain_remove_loop _, codeAny_builtin entry_remove_loop (by
      rw [Around.under_plainId plain_remove_loop _]
      exact ih (i + 1) (by omega) (by omega) (fun m hm h1 h2 => hno m hm (by omega) h2) prog w A R _ ⟨hl, he, h⟩)⟩

theorem remove_none_at (l : Addr) (items : Array Value) (n : Nat) (x : Value) (e : Value → Bool) (hno : ∀ m (hm : m < items.size), e items[m] = false) (k : Nat) :
    ∀ i : Nat, items.size - i = k → Meets (Builtin.«list.remove.loop» ⟨[.ref l, x, rawInt i], []⟩)
      (fun A R s => s.heap.get? l = some { cls := .type "list", dict := none, data := .seq items n, slots := #[] } ∧ (∀ y, y ∈ items → EqAt A.in1 s y x (e y)) ∧ raisesNew "ValueError" A R s) := by
  induction k with
  | zero =>
    intro i hk prog w A R s h
    obtain ⟨hp, g, d, tk, os⟩ := s; obtain ⟨hl, he, h⟩ := h
    wp_walk using wpAny_loadPart' hl
    have hi : items[((i : Nat) : Int).toNat]? = none := by simp; omega
    rw [hi]
    wp_walk
    exact_raiseError plainExc_ValueError h.1 h.2
  | succ k ih =>
    intro i hk prog w A R s h
    obtain ⟨hp, g, d, tk, os⟩ := s; obtain ⟨hl, he, h⟩ := h
    have hlt : i < items.size := by omega
    wp_walk using wpAny_loadPart' hl
    have hi : items[((i : Nat) : Int).toNat]? = some items[i] := by simp [hlt]
    have hc : ((i : Int) + 1) = ((i + 1 : Nat) : Int) := by push_cast; rfl
    rw [hi]
    refine wpAny_bind (he _ (Array.getElem_mem hlt) prog w _ _ ?_)
    rw [hno i hlt]
    wp_walk
    rw [hc]
    exact ⟨plainId_quiet plain_remove_loop _, codeAny_builtin entry_remove_loop (by
      rw [Around.under_plainId plain_remove_loop _]
      exact ih (i + 1) (by omega) prog w A R _ ⟨hl, he, h⟩)⟩

theorem list_remove_at (l : Addr) (items : Array Value) (n : Nat) (x : Value) (e : Value → Bool) (j : Nat) (hj : j < items.size) (hit : e items[j] = true) (hno : ∀ m (hm : m < items.size), m < j → e items[m] = false) (hs1 : items.size ≤ sizeLine) :
    Meets (Builtin.«list.remove» ⟨[.ref l, x], []⟩)
      (fun A R s => s.heap.get? l = some { cls := .type "list", dict := none, data := .seq items n, slots := #[] } ∧ (∀ y, y ∈ items → EqAt A.in1 s y x (e y)) ∧ R (.ok (.ret .none)) { s with heap := s.heap.update l (Obj.mapSeq fun xs => xs.eraseIdxIfInBounds j) }) := by
  intro prog w A R s h
  obtain ⟨hp, g, d, tk, os⟩ := s; obtain ⟨hl, he, h⟩ := h
  wp_walk using wpAny_loadPart' hl
  exact ⟨plainId_quiet plain_remove_loop _, codeAny_builtin entry_remove_loop (by
    rw [Around.under_plainId plain_remove_loop _]
    exact remove_at l items n x e j hj hit _ hs1 0 rfl (Nat.zero_le _) (fun m hm _ h2 => hno m hm h2) prog w A R _ ⟨hl, he, h⟩)⟩

theorem list_remove_none_at (l : Addr) (items : Array Value) (n : Nat) (x : Value) (e : Value → Bool) (hno : ∀ m (hm : m < items.size), e items[m] = false) :
    Meets (Builtin.«list.remove» ⟨[.ref l, x], []⟩)
      (fun A R s => s.heap.get? l = some { cls := .type "list", dict := none, data := .seq items n, slots := #[] } ∧ (∀ y, y ∈ items → EqAt A.in1 s y x (e y)) ∧ raisesNew "ValueError" A R s) := by
  intro prog w A R s h
  obtain ⟨hp, g, d, tk, os⟩ := s; obtain ⟨hl, he, h⟩ := h
  wp_walk using wpAny_loadPart' hl
  exact ⟨plainId_quiet plain_remove_loop _, codeAny_builtin entry_remove_loop (by
    rw [Around.under_plainId plain_remove_loop _]
    exact remove_none_at l items n x e hno _ 0 rfl prog w A R _ ⟨hl, he, h⟩)⟩

section
variable {prog : Program} {w : World} {A : Around} {E : Value → Shared → Prop} {s : Shared}

/-- l.remove(x): the first that is equal goes, or ValueError -/
theorem remove_call {l : Addr} {vs : List Value} {x : Value} {Q : Value → Shared → Prop} (e : Value → Bool) (hl : s.heap.PlainList l vs.toArray) (hsz : vs.length ≤ 1000) (he : ∀ y ∈ vs, EqAt A.in1 s y x (e y))
    (hit : vs.any e = true → ∀ h', h'.PlainList l (vs.eraseP e).toArray → Heap.SameBut l s.heap h' → Q .none { s with heap := h' })
    (miss : vs.any e = false → A.handled = none ∧ ∀ h' tk e, Heap.NewExc s.heap h' e "ValueError" → E (.ref e) { s with heap := h', toks := tk }) :
    wpAny (model prog w) A (call (.builtin "list.remove") [.ref l, x]) Q E s := by
  obtain ⟨n, hg⟩ := hl
  have he' : ∀ y, y ∈ vs.toArray → EqAt A.in1 s y x (e y) := fun y hy => he y (by simpa using hy)
  cases ha : vs.any e with
  | true =>
    have hx : ∃ y ∈ vs, e y = true := List.any_eq_true.mp ha
    have hj : vs.findIdx e < vs.length := List.findIdx_lt_length_of_exists hx
    refine call_meets PySem.F.slot_list_remove ⟨_, hg, rfl⟩ PySem.F.entry_list_remove (PySem.F.args_list_remove_2 _ _)
      (list_remove_at l vs.toArray n x e (vs.findIdx e) (by simpa using hj) (by simpa using List.findIdx_getElem (w := hj)) (fun m hm hlt => by
        have := List.not_of_lt_findIdx hlt
        simpa using this) (by simp only [List.size_toArray]; unfold sizeLine; omega)) ⟨hg, he', ?_⟩
    have hs : Heap.SameBut l s.heap (s.heap.update l (Obj.mapSeq fun xs => xs.eraseIdxIfInBounds (vs.findIdx e))) := Heap.SameBut.update ..
    refine hit ha _ ⟨if (vs.eraseP e).toArray.size == vs.toArray.size then n else n + 1, ?_⟩ hs
    · refine (Heap.get?_update_self _ hg ?_).trans ?_
      · rfl
      · show some (Obj.mapSeq _ _) = _
        have e1 : vs.toArray.eraseIdxIfInBounds (vs.findIdx e) = (vs.eraseP e).toArray := by
          rw [List.eraseP_eq_eraseIdx]
          have : vs.findIdx? e = some (vs.findIdx e) := by
            rw [List.findIdx?_eq_some_iff_findIdx_eq]
            exact ⟨hj, rfl⟩
          rw [this]
          simp
        unfold Obj.mapSeq
        simp only [e1]
  | false =>
    obtain ⟨hh, hE⟩ := miss ha
    refine call_meets PySem.F.slot_list_remove ⟨_, hg, rfl⟩ PySem.F.entry_list_remove (PySem.F.args_list_remove_2 _ _)
      (list_remove_none_at l vs.toArray n x e (fun m hm => by
        have := List.any_eq_false.mp ha vs[m] (List.getElem_mem _)
        simpa using this)) ⟨hg, he', hh, hE⟩
end
end Mine

namespace Mine
open PySem.SeqAt PySem.MeetsSeq

abbrev frs (l : List Env) : List Addr := l.filterMap (·.frame)
/-- the frames on the stack stand in the heap -/
def FrsOk (h : Heap) (l : List Env) : Prop := ∀ env ∈ l, env.scope.kind ≠ .module ∧ ∃ L o es n, env.frame = some L ∧ h.get? L = some o ∧ o.data = .dict es n

theorem FrsOk.fun {h base : Heap} : ∀ {l : List Env}, FrsOk h l → (∀ b ∈ frs l, base.get? b = none) → h.FunFrames base l
  | [], _, _ => trivial
  | env :: r, x, hb => by
    obtain ⟨hk, L, o, es, n, hf, ho, hd⟩ := x env (.head _)
    exact ⟨hk, ⟨L, o, hf, hb L (by simp [frs, List.filterMap_cons, hf]), ho, fun vs q => by rw [hd] at q; cases q⟩,
      FrsOk.fun (l := r) (fun e he => x e (.tail _ he)) fun b hb' => hb b (by rw [frs, List.filterMap_cons, hf]; exact .tail _ hb')⟩

/-- what an exception's flight may change: the frames' slots, and the objects X -/
structure Xk (fs X : List Addr) (h h' : Heap) : Prop where
  keep : ∀ b o, b ∉ fs → b ∉ X → h.get? b = some o → h'.get? b = some o
  slots : ∀ b o, b ∉ X → h.get? b = some o → ∃ sl, h'.get? b = some { o with slots := sl }
theorem Xk.trans {fs X : List Addr} {h₁ h₂ h₃ : Heap} (x : Xk fs X h₁ h₂) (y : Xk fs X h₂ h₃) : Xk fs X h₁ h₃ :=
  ⟨fun b o h1 h2 e => y.keep b o h1 h2 (x.keep b o h1 h2 e), fun b o h1 e => let ⟨_, e₁⟩ := x.slots b o h1 e; let ⟨sl, e₂⟩ := y.slots b _ h1 e₁; ⟨sl, e₂⟩⟩
theorem Xk.mono {fs X X' : List Addr} {h₁ h₂ : Heap} (x : Xk fs X h₁ h₂) (hX : ∀ b ∈ X, b ∈ X') : Xk fs X' h₁ h₂ :=
  ⟨fun b o h1 h2 e => x.keep b o h1 (fun q => h2 (hX b q)) e, fun b o h1 e => x.slots b o (fun q => h1 (hX b q)) e⟩
theorem Xk.of_keeps {fs X : List Addr} {h h' : Heap} (k : Sub h h') : Xk fs X h h' := ⟨fun b o _ _ e => k b o e, fun b o _ e => ⟨o.slots, k b o e⟩⟩
theorem Xk.frsOk {fs X : List Addr} {h h' : Heap} {l : List Env} (x : Xk fs X h h') (ok : FrsOk h l) (hX : ∀ b ∈ X, b ∉ frs l) : FrsOk h' l := fun env he => by
  obtain ⟨hk, L, o, es, n, hf, ho, hd⟩ := ok env he
  obtain ⟨sl, hs⟩ := x.slots L o (fun q => hX L q (List.mem_filterMap.mpr ⟨env, he, hf⟩)) ho
  exact ⟨hk, L, _, es, n, hf, hs, hd⟩

/-- an exception in flight, with its traceback's head -/
structure XAt (h : Heap) (e T : Addr) (cls : String) (fl : Value) : Prop where
  exc : ∃ oe vs, h.get? e = some oe ∧ oe.cls = .type cls ∧ oe.data = .fields vs ∧ vs[1]? = some (.ref T) ∧ vs[2]? = some .none
  tb : ∃ oT ts, h.get? T = some oT ∧ oT.data = .fields ts ∧ ts[3]? = some fl
  ne : T ≠ e

theorem empty_get (b : Addr) : (Heap.get? ⟨#[], {}⟩ b) = none := by simp [Heap.get?]

theorem fields_not_frame {h : Heap} {l : List Env} {b : Addr} {o : Obj} {vs : Array Value} (ok : FrsOk h l) (ho : h.get? b = some o) (hd : o.data = .fields vs) : b ∉ frs l := fun q => by
  obtain ⟨env, he, hf⟩ := List.mem_filterMap.mp q
  obtain ⟨_, L, o', es, n, hf', ho', hd'⟩ := ok env he
  rw [hf] at hf'; cases hf'
  rw [ho] at ho'; cases ho'
  rw [hd] at hd'; cases hd'

section
variable {M : Model} {A : Around} {E : Value → Shared → Prop} {s : Shared}

/-- a new entry of the traceback -/
theorem entry_new {env : Env} {outer : List Env} {L e : Addr} {oe : Obj} {vs : Array Value} {head : Value} {hadNext : Bool} {Q : Unit → Shared → Prop}
    (hfr : A.frames = some (env :: outer)) (ok : FrsOk s.heap (env :: outer)) (hf : env.frame = some L) (he : s.heap.get? e = some oe) (hd : oe.data = .fields vs) (hsz : 2 < vs.size) (h2 : vs[2]? = some .none) {cls : String} (hc : oe.cls = .type cls)
    (h : ∀ h' T, Xk (frs (env :: outer)) [e] s.heap h' → s.heap.get? T = none → XAt h' e T cls (rawInt L) → Q () { s with heap := h' }) :
    wpAny M A (do let a ← frameOf env; let pl ← entryPlaceOf L hadNext; let b ← EntryCells.newEntry head a .none (rawInt L) .none pl; setField (.ref e) 1 b) Q E s := by
  have hl : s.heap.FunFrames ⟨#[], {}⟩ (env :: outer) := ok.fun fun b _ => empty_get b
  have hene : e ∉ frs (env :: outer) := fields_not_frame ok he hd
  refine wpAny_bind (wpAny_frameOf_fun hfr hl hf fun h₁ hs₁ => ?_)
  refine wpAny_bind (wpAny_entryPlaceOf fun pl hpl => ?_)
  unfold EntryCells.newEntry newFields
  refine wpAny_bind (wpAny_newObj_type ?_ (hpl.sizeOk5 _ _ _ _ _))
  have he₁ : h₁.get? e = some oe := (hs₁.2.1 e hene).trans he
  have he₂ := Heap.get?_push_of_some (h := h₁) { cls := .type "traceback", dict := none, data := .fields ([head, .ref L, .none, rawInt L, .none] ++ (if pl.isEmpty then List.replicate 6 Value.none else pl)).toArray } he₁
  refine wpAny_setField he₂ hd (by omega) ?_
  have hTe : h₁.objs.size ≠ e := Nat.ne_of_gt (Heap.lt_size he₁)
  have hd₃ := Obj.data_mapFields hd (·.setIfInBounds 1 (Value.ref h₁.objs.size))
  have he₃ := Heap.get?_update_self (Obj.mapFields (·.setIfInBounds 1 (Value.ref h₁.objs.size))) he₂ (Obj.isFreed_of_fields hd₃)
  have hT₃ := (Heap.get?_update_other (h₁.push { cls := .type "traceback", dict := none, data := .fields ([head, .ref L, .none, rawInt L, .none] ++ (if pl.isEmpty then List.replicate 6 Value.none else pl)).toArray })
    (Obj.mapFields (·.setIfInBounds 1 (Value.ref h₁.objs.size))) (Ne.symm hTe)).trans (Heap.get?_push_size h₁ rfl)
  have keep : ∀ b o, b ≠ e → h₁.get? b = some o →
      ((h₁.push { cls := .type "traceback", dict := none, data := .fields ([head, .ref L, .none, rawInt L, .none] ++ (if pl.isEmpty then List.replicate 6 Value.none else pl)).toArray }).update e (Obj.mapFields (·.setIfInBounds 1 (Value.ref h₁.objs.size)))).get? b = some o :=
    fun b o hbe hb => by
      rw [Heap.get?_update_other _ _ (Ne.symm hbe)]
      exact Heap.get?_push_of_some _ hb
  have hTn : s.heap.get? h₁.objs.size = none := by
    cases q : s.heap.get? h₁.objs.size with
    | none => rfl
    | some o =>
      have := Heap.lt_size q
      rw [hs₁.1] at this
      exact absurd this (Nat.lt_irrefl _)
  refine h _ h₁.objs.size ⟨fun b o hb hbe q => keep b o (fun z => hbe (by simp [z])) ((hs₁.2.1 b hb).trans q), fun b o hbe q => ?_⟩ hTn ⟨⟨_, _, he₃, (Obj.cls_mapFields ..).trans hc, hd₃, by simp only [Array.getElem?_setIfInBounds_self]; rw [if_pos (by omega)], ?_⟩, ⟨_, _, hT₃, rfl, ?_⟩, hTe⟩
  · obtain ⟨sl, hs⟩ := hs₁.2.2 b o q
    exact ⟨sl, keep b _ (fun z => hbe (by simp [z])) hs⟩
  · rw [Array.getElem?_setIfInBounds_ne (by decide)]; exact h2
  · first | (simp; done) | (rcases hpl with rfl | ⟨_, _, _, _, _, _, _, rfl⟩ <;> simp)

/-- the frame is noted on an exception that is new -/
theorem note_new {env : Env} {outer : List Env} {L e : Addr} {oe : Obj} {vs : Array Value} {cls : String} {Q : Unit → Shared → Prop}
    (hfr : A.frames = some (env :: outer)) (ok : FrsOk s.heap (env :: outer)) (hf : env.frame = some L) (he : s.heap.get? e = some oe) (hd : oe.data = .fields vs) (h1 : vs[1]? = some .none) (h2 : vs[2]? = some .none) (hc : oe.cls = .type cls)
    (h : ∀ h' T, Xk (frs (env :: outer)) [e] s.heap h' → s.heap.get? T = none → XAt h' e T cls (rawInt L) → Q () { s with heap := h' }) : wpAny M A (noteFrame (.ref e) env) Q E s := by
  unfold noteFrame
  simp only [hf]
  refine wpAny_bind (wpAny_field he hd h1 ?_)
  rw [if_neg (by decide)]
  exact entry_new hfr ok hf he hd (Array.getElem?_eq_some_iff.mp h2).1 h2 hc h

/-- it is noted already -/
theorem note_again {env : Env} {L e T : Addr} {cls : String} {Q : Unit → Shared → Prop} (hf : env.frame = some L) (x : XAt s.heap e T cls (rawInt L)) (h : Q () s) : wpAny M A (noteFrame (.ref e) env) Q E s := by
  obtain ⟨oe, vs, he, hc, hd, h1, h2⟩ := x.exc
  obtain ⟨oT, ts, hT, hdT, h3⟩ := x.tb
  unfold noteFrame
  simp only [hf]
  refine wpAny_bind (wpAny_field he hd h1 ?_)
  rw [if_pos (show (Value.ref T != Value.none) = true from by simp)]
  refine wpAny_bind (wpAny_field hT hdT h3 ?_)
  rw [if_pos (show (rawInt L == rawInt L) = true from by simp)]
  exact wpAny_pure h

/-- a further frame is noted -/
theorem note_next {env : Env} {outer : List Env} {L e T : Addr} {cls : String} {Q : Unit → Shared → Prop} (hfr : A.frames = some (env :: outer)) (ok : FrsOk s.heap (env :: outer)) (hf : env.frame = some L) (x : XAt s.heap e T cls .none)
    (h : ∀ h' T', Xk (frs (env :: outer)) [e, T] s.heap h' → s.heap.get? T' = none → XAt h' e T' cls (rawInt L) → Q () { s with heap := h' }) : wpAny M A (noteFrame (.ref e) env) Q E s := by
  obtain ⟨oe, vs, he, hc, hd, h1, h2⟩ := x.exc
  obtain ⟨oT, ts, hT, hdT, h3⟩ := x.tb
  unfold noteFrame
  simp only [hf]
  refine wpAny_bind (wpAny_field he hd h1 ?_)
  rw [if_pos (show (Value.ref T != Value.none) = true from by simp)]
  refine wpAny_bind (wpAny_field hT hdT h3 ?_)
  rw [if_neg (show ¬ ((Value.none == rawInt L) = true) from by simp [rawInt])]
  refine wpAny_bind (wpAny_setField hT hdT (Array.getElem?_eq_some_iff.mp h3).1 ?_)
  have other : ∀ b, b ≠ T → (s.heap.update T (Obj.mapFields (·.setIfInBounds 3 Value.none))).get? b = s.heap.get? b := fun b hb => Heap.get?_update_other _ _ (Ne.symm hb)
  have hTf : T ∉ frs (env :: outer) := fields_not_frame ok hT hdT
  have ok' : FrsOk (s.heap.update T (Obj.mapFields (·.setIfInBounds 3 Value.none))) (env :: outer) := fun en hen => by
    obtain ⟨hk, L', o, es, n, hf', ho, hd'⟩ := ok en hen
    exact ⟨hk, L', o, es, n, hf', (other L' (fun z => hTf (z ▸ List.mem_filterMap.mpr ⟨en, hen, hf'⟩))).trans ho, hd'⟩
  refine entry_new hfr ok' hf ((other e (Ne.symm x.ne)).trans he) hd (Array.getElem?_eq_some_iff.mp h2).1 h2 hc fun h' T' k hn hx => h h' T' ⟨fun b o hb hbX q => ?_, fun b o hbX q => ?_⟩ ?_ hx
  · simp only [List.mem_cons, List.mem_nil_iff, or_false, not_or] at hbX
    exact k.keep b o hb (by simp [hbX.1]) ((other b hbX.2).trans q)
  · simp only [List.mem_cons, List.mem_nil_iff, or_false, not_or] at hbX
    exact k.slots b o (by simp [hbX.1]) ((other b hbX.2).trans q)
  · by_cases hTT : T' = T
    · subst hTT
      have := Heap.get?_update_self (Obj.mapFields (·.setIfInBounds 3 Value.none)) hT (Obj.isFreed_of_fields (Obj.data_mapFields hdT _))
      rw [this] at hn; cases hn
    · rw [other T' hTT] at hn; exact hn

theorem set_flight {e T : Addr} {cls : String} {fl : Value} {fr : Option Addr} {Q : Unit → Shared → Prop} (x : XAt s.heap e T cls fl)
    (h : ∀ h', Heap.SameBut T s.heap h' → XAt h' e T cls (fr.elim .none fun f => rawInt f) → Q () { s with heap := h' }) : wpAny M A (setFlight (.ref e) fr) Q E s := by
  obtain ⟨oe, vs, he, hc, hd, h1, h2⟩ := x.exc
  obtain ⟨oT, ts, hT, hdT, h3⟩ := x.tb
  have hsz3 : 3 < ts.size := (Array.getElem?_eq_some_iff.mp h3).1
  unfold setFlight
  refine wpAny_bind (wpAny_field he hd h1 ?_)
  rw [if_pos (show (Value.ref T != Value.none) = true from by simp)]
  refine wpAny_setField hT hdT hsz3 (h _ (Heap.SameBut.update ..) ⟨⟨oe, vs, ?_, hc, hd, h1, h2⟩, ⟨_, _, Heap.get?_update_self _ hT (Obj.isFreed_of_fields (Obj.data_mapFields hdT _)), Obj.data_mapFields hdT _, by simp [hsz3]⟩, x.ne⟩)
  exact (Heap.get?_update_other _ _ x.ne).trans he

/-- the exception comes back from the frame's own block -/
theorem came_back {env : Env} {L e T : Addr} {cls : String} {fl : Value} {E' : Value → Shared → Prop} (hf : env.frame = some L) (x : XAt s.heap e T cls fl)
    (h : ∀ h', Heap.SameBut T s.heap h' → XAt h' e T cls (rawInt L) → E' (.ref e) { s with heap := h' }) : cameBackBy M A env E' (.ref e) s := by
  obtain ⟨oe, vs, he, hc, hd, h1, h2⟩ := id x.exc
  unfold cameBackBy
  refine wpAny_bind (wpAny_field he hd h1 ?_)
  simp only
  rw [if_neg (show ¬ ((Value.ref T == Value.none) = true) from by simp), hf]
  exact set_flight x fun h' hs hx => h h' hs hx
end
end Mine

namespace Mine
open PySem.SeqAt PySem.MeetsSeq

/-- as Ext, but the slots of the frames fs may have changed -/
structure ExtF (fs : List Addr) (S : Heap) (s : Shared) (S' : Heap) (s' : Shared) : Prop where
  st : ∃ h tk, s' = { s with heap := h, toks := tk }
  keep : ∀ b o, b ∉ fs → s.heap.get? b = some o → s'.heap.get? b = some o
  slots : ∀ b o, s.heap.get? b = some o → ∃ sl, s'.heap.get? b = some { o with slots := sl }
  le : Sub S S'
  sub : Sub S' s'.heap
  new : ∀ b o, s.heap.get? b = some o → S'.get? b = S.get? b
theorem Ext.toF {fs : List Addr} {S S' : Heap} {s s' : Shared} (x : Ext S s S' s') : ExtF fs S s S' s' := ⟨x.st, fun b o _ e => x.keep b o e, fun b o e => ⟨o.slots, x.keep b o e⟩, x.le, x.sub, x.new⟩

/-- the state with the frames fs out of sight -/
def hid (s : Shared) (fs : List Addr) : Shared := { s with heap := pick s.heap fun b => !fs.contains b }
theorem hid_get (s : Shared) (fs : List Addr) (b : Addr) : (hid s fs).heap.get? b = if b ∈ fs then none else s.heap.get? b := by
  show (pick s.heap _).get? b = _
  rw [pick_get]
  by_cases h : b ∈ fs
  · simp [h]
  · simp [h]

/-- a frame at work in which exceptions may fly -/
structure FrmX (S₀ : Heap) (s₀ : Shared) (outer : List Env) (B S : Heap) (L : Addr) (s : Shared) (m : Str → Option Value) : Prop where
  F : Frm S₀ (hid s₀ (frs outer)) B S L s m
  up : ∀ b o, b ∈ frs outer → s₀.heap.get? b = some o → ∃ sl, s.heap.get? b = some { o with slots := sl }
  offB : ∀ b ∈ frs outer, B.get? b = none
  off : ∀ b ∈ frs outer, S.get? b = none
  ok : FrsOk s₀.heap outer
  ne : L ∉ frs outer

section
variable {S₀ : Heap} {s₀ : Shared} {outer : List Env} {B S : Heap} {L : Addr} {s : Shared} {m : Str → Option Value}

theorem FrmX.ext (X : FrmX S₀ s₀ outer B S L s m) : ExtF (frs outer) S₀ s₀ S s := by
  refine ⟨?_, fun b o hb e => ?_, fun b o e => ?_, X.F.le, X.F.sub, fun b o e => ?_⟩
  · obtain ⟨h, tk, e⟩ := X.F.st; exact ⟨h, tk, e⟩
  · exact X.F.keep b o (X.F.base b o (by rw [hid_get, if_neg hb]; exact e))
  · by_cases hb : b ∈ frs outer
    · exact X.up b o hb e
    · exact ⟨o.slots, X.F.keep b o (X.F.base b o (by rw [hid_get, if_neg hb]; exact e))⟩
  · by_cases hb : b ∈ frs outer
    · rw [X.off b hb]
      cases q : S₀.get? b with
      | none => rfl
      | some o' => have := X.F.le b o' q; rw [X.off b hb] at this; cases this
    · exact X.F.new b o (X.F.base b o (by rw [hid_get, if_neg hb]; exact e))

theorem FrmX.here (X : FrmX S₀ s₀ outer B S L s m) : FrsOk s.heap outer := fun env he => by
  obtain ⟨hk, L', o, es, n, hf, ho, hd⟩ := X.ok env he
  obtain ⟨sl, hs⟩ := X.up L' o (List.mem_filterMap.mpr ⟨env, he, hf⟩) ho
  exact ⟨hk, L', _, es, n, hf, hs, hd⟩
theorem FrmX.frames (X : FrmX S₀ s₀ outer B S L s m) {env : Env} (hk : env.scope.kind ≠ .module) (hf : env.frame = some L) : FrsOk s.heap (env :: outer) := fun e he => by
  rcases List.mem_cons.mp he with rfl | he
  · obtain ⟨o, es, n, ho, hd, _⟩ := X.F.ns
    exact ⟨hk, L, o, es, n, hf, ho, hd⟩
  · exact X.here e he

theorem FrmX.own (X : FrmX S₀ s₀ outer B S L s m) {b : Addr} (hb : b ∈ frs outer) : Own S₀ B S L b := by
  refine ⟨X.offB b hb, X.off b hb, ?_, ?_⟩
  · cases q : S₀.get? b with
    | none => rfl
    | some o' => have := X.F.le b o' q; rw [X.off b hb] at this; cases this
  · rintro rfl
    exact X.ne hb

theorem FrmX.after {S' : Heap} {s' : Shared} (X : FrmX S₀ s₀ outer B S L s m) (x : Ext S s S' s') : FrmX S₀ s₀ outer B S' L s' m := by
  refine ⟨X.F.after x, fun b o hb e => ?_, X.offB, fun b hb => ?_, X.ok, X.ne⟩
  · obtain ⟨sl, hs⟩ := X.up b o hb e
    exact ⟨sl, x.keep b _ hs⟩
  · obtain ⟨env, he, hf⟩ := List.mem_filterMap.mp hb
    obtain ⟨_, L', o, es, n, hf', ho, _⟩ := X.here env he
    rw [hf] at hf'; cases hf'
    rw [x.new b o ho]; exact X.off b hb

/-- behind a stretch of an exception's flight -/
theorem FrmX.fly {env : Env} {h' : Heap} {Xs : List Addr} (X : FrmX S₀ s₀ outer B S L s m) (hf : env.frame = some L) (k : Xk (frs (env :: outer)) Xs s.heap h') (hX : ∀ b ∈ Xs, Own S₀ B S L b ∧ b ∉ frs outer) :
    FrmX S₀ s₀ outer B S L { s with heap := h' } m := by
  have hfs : ∀ b, b ∈ frs (env :: outer) → b = L ∨ b ∈ frs outer := fun b hb => by
    rw [frs, List.filterMap_cons, hf] at hb
    rcases List.mem_cons.mp hb with rfl | q
    · exact .inl rfl
    · exact .inr q
  obtain ⟨hh, t, e⟩ := X.F.st
  have hL : L ∉ Xs := fun q => (hX L q).1.ne rfl
  refine ⟨⟨⟨h', s.toks, by rw [e]⟩, X.F.base, fun b o q => k.keep b o (fun z => ?_) (fun z => ?_) (X.F.keep b o q), X.F.le, fun b o q => k.keep b o (fun z => ?_) (fun z => ?_) (X.F.sub b o q), X.F.new, ?_, X.F.offB, X.F.off⟩,
    fun b o hb q => ?_, X.offB, X.off, X.ok, X.ne⟩
  · rcases hfs b z with rfl | z
    · rw [X.F.offB] at q; cases q
    · rw [X.offB b z] at q; cases q
  · rw [(hX b z).1.offB] at q; cases q
  · rcases hfs b z with rfl | z
    · rw [X.F.off] at q; cases q
    · rw [X.off b z] at q; cases q
  · rw [(hX b z).1.off] at q; cases q
  · obtain ⟨o, es, n, ho, hd, r⟩ := X.F.ns
    obtain ⟨sl, hs⟩ := k.slots L o hL ho
    exact ⟨_, es, n, hs, hd, r⟩
  · obtain ⟨sl, hs⟩ := X.up b o hb q
    obtain ⟨sl', hs'⟩ := k.slots b _ (fun z => (hX b z).2 hb) hs
    exact ⟨sl', hs'⟩

theorem FrmX.unhold {B' : Heap} (X : FrmX S₀ s₀ outer B' S L s m) (hb : Sub (hid s₀ (frs outer)).heap B) (hs : Sub B B') : FrmX S₀ s₀ outer B S L s m := by
  refine ⟨X.F.unhold hb hs, X.up, fun b hb' => ?_, X.off, X.ok, X.ne⟩
  cases e : B.get? b with
  | none => rfl
  | some o => have := hs _ _ e; rw [X.offB b hb'] at this; cases this

theorem FrmX.toks (X : FrmX S₀ s₀ outer B S L s m) (tk : Nat) : FrmX S₀ s₀ outer B S L { s with toks := tk } m := ⟨X.F.toks tk, X.up, X.offB, X.off, X.ok, X.ne⟩
/-- a step of the frame that leaves the other frames alone -/
theorem FrmX.step {S' : Heap} {s' : Shared} {m' : Str → Option Value} (X : FrmX S₀ s₀ outer B S L s m) (F' : Frm S₀ (hid s₀ (frs outer)) B S' L s' m') (hk : ∀ b ∈ frs outer, ∀ o, s.heap.get? b = some o → s'.heap.get? b = some o)
    (hS : ∀ b ∈ frs outer, S'.get? b = none) : FrmX S₀ s₀ outer B S' L s' m' :=
  ⟨F', fun b o hb e => let ⟨sl, hs⟩ := X.up b o hb e; ⟨sl, hk b hb _ hs⟩, X.offB, hS, X.ok, X.ne⟩
end

section
variable {prog : Program} {w : World} {A : Around} {E : Value → Shared → Prop} {s : Shared}

/-- a call of one of the text's functions in which exceptions may fly -/
theorem call_fnX {S : Heap} {a : Addr} {fd : FuncData} {args : List Value} {kw : List (Str × Value)} {binds : List (Str × Value)} {Q : Value → Shared → Prop} {outer : List Env} (G : Gnd S) (hS : Sub S s.heap) (hf : ftab.lookup a = some fd)
    {body : List Stmt} (hb : fd.body = .stmts body) (hroom : A.depth < recursionLimit) (hbind : BindsTo s fd ⟨args, kw⟩ binds) (hloc : ∀ x ∈ binds, fd.scope.names.lookup x.1 = some .local)
    (ok : FrsOk s.heap outer) (hfs : ∀ b ∈ frs outer, S.get? b = none)
    (h : ∀ s₁, FrmX S s outer (hid s (frs outer)).heap S s.heap.objs.size s₁ (fun x => binds.reverse.lookup x) →
      wpAny (model prog w) (A.deeper (callEnv fd s.heap.objs.size a)) (execs body (callEnv fd s.heap.objs.size a)) (fun f s' => Q (match f with | .ret v => v | _ => .none) s')
        (fun e s' => wpAny (model prog w) (A.deeper (callEnv fd s.heap.objs.size a)) (leaving (callEnv fd s.heap.objs.size a) e) (fun _ s'' => E e s'') (fun e' s'' => E e' s'') s') s₁)
    (hcell : ∀ x ∈ fd.scope.names, x.2 ≠ .cell := by decide) (hco : fd.scope.isCoroutine = false := by rfl) (hgen : fd.scope.isGenerator = false := by rfl) (hk : fd.scope.kind = .function := by rfl) :
    wpAny (model prog w) A (call (.ref a) args kw) Q E s := by
  obtain ⟨ho, hcd⟩ := G.fn a fd hf
  refine wpAny_call (codeAny_call_def hroom (hS _ _ ho) rfl (G.lim.keeps hS) (hcd.keeps hS) hb hbind hcell hloc (fun h₀ hn hk₀ => ?_) hco hgen hk)
  have hsub : Sub (hid s (frs outer)).heap s.heap := fun b o e => by
    rw [hid_get] at e; split at e
    · cases e
    · exact e
  have hLn : s.heap.objs.size ∉ frs outer := fun q => by
    obtain ⟨env, he, hf'⟩ := List.mem_filterMap.mp q
    obtain ⟨_, L', o, _, _, hf'', ho', _⟩ := ok env he
    rw [hf'] at hf''; cases hf''
    exact absurd (Heap.lt_size ho') (Nat.lt_irrefl _)
  refine h _ ⟨⟨⟨h₀, _, rfl⟩, fun _ _ e => e, fun b o e => hk₀ b o (hsub b o e), fun _ _ e => e, fun b o e => hk₀ b o (hS b o e), fun _ _ _ => rfl, hn, ?_, get?_none_of_size hS (Nat.le_refl _)⟩, fun b o _ e => ⟨o.slots, hk₀ b o e⟩, fun b hb => by rw [hid_get, if_pos hb], hfs, ok, hLn⟩
  rw [hid_get, if_neg hLn]; exact push_none _
end
end Mine

namespace Mine
open PySem.SeqAt PySem.MeetsSeq

/-- the numbers of the first of each kind -/
def dedK (ks : List Nat) : List Nat := (fpl (kinds ks)).map fun p => ks.getD p 0
theorem kinds_dedK (ks : List Nat) : kinds (dedK ks) = dk (kinds ks) := by
  unfold kinds dedK dk
  rw [List.map_map]
  refine List.map_congr_left fun p hp => ?_
  have := fpl_lt hp
  simp only [kinds, List.length_map] at this
  exact (kinds_getD ks this).symm
theorem ths_ded {h : Heap} {vs : List Value} {ks : List Nat} (x : Ths h vs ks) : Ths h (dedV vs ks) (dedK ks) := by
  refine ⟨by simp [dedV, dedK], fun i v k hv hk => ?_⟩
  simp only [dedV, dedK, List.getElem?_map, Option.map_eq_some_iff] at hv hk
  obtain ⟨p, hp, rfl⟩ := hv
  obtain ⟨q, hq, rfl⟩ := hk
  rw [hp] at hq; cases hq
  have := fpl_lt (List.mem_of_getElem? hp)
  simp only [kinds, List.length_map] at this
  exact x.at (by rw [x.1]; exact this)
theorem dedV_len (vs : List Value) (ks : List Nat) : (dedV vs ks).length ≤ ks.length := by
  unfold dedV
  rw [List.length_map]
  have := fpl_len (kinds ks)
  simpa [kinds] using this

theorem Ths.cons_inv {h : Heap} {v : Value} {vs : List Value} {ks : List Nat} (x : Ths h (v :: vs) ks) : ∃ k ks', ks = k :: ks' ∧ TAt h v k ∧ Ths h vs ks' := by
  cases ks with
  | nil => have := x.1; simp at this
  | cons k ks' => exact ⟨k, ks', rfl, x.2 0 v k rfl rfl, by have := x.1; simpa using this, fun i u j hu hj => x.2 (i + 1) u j (by simpa using hu) (by simpa using hj)⟩
theorem Ths.cons {h : Heap} {v : Value} {k : Nat} {vs : List Value} {ks : List Nat} (a : TAt h v k) (x : Ths h vs ks) : Ths h (v :: vs) (k :: ks) := by
  refine ⟨by simp [x.1], fun i u j hu hj => ?_⟩
  cases i with
  | zero =>
    have h1 : v = u := by simpa using hu
    have h2 : k = j := by simpa using hj
    subst h1 h2; exact a
  | succ i => exact x.2 i u j (by simpa using hu) (by simpa using hj)

theorem Ths.any_kind {h : Heap} (k : Nat) : ∀ {vs : List Value} {ks : List Nat}, Ths h vs ks → (vs.any fun y => kindT (numOf h y) == kindT k) = (kinds ks).contains (kindT k)
  | [], ks, x => by
    have : ks = [] := List.length_eq_zero_iff.mp x.1.symm
    subst this; rfl
  | v :: vs, ks, x => by
    obtain ⟨j, ks', rfl, a, x'⟩ := x.cons_inv
    rw [List.any_cons, Ths.any_kind k x', numOf_eq a]
    show _ = (kindT j :: kinds ks').contains (kindT k)
    rw [List.contains_cons]
    congr 1
    rw [Bool.eq_iff_iff]; simp only [beq_iff_eq]; exact eq_comm
theorem Ths.erase {h : Heap} (k : Nat) : ∀ {vs : List Value} {ks : List Nat}, Ths h vs ks → ∃ js, Ths h (vs.eraseP fun y => kindT (numOf h y) == kindT k) js ∧ kinds js = (kinds ks).erase (kindT k)
  | [], ks, x => by
    have : ks = [] := List.length_eq_zero_iff.mp x.1.symm
    subst this; exact ⟨[], x, rfl⟩
  | v :: vs, ks, x => by
    obtain ⟨j, ks', rfl, a, x'⟩ := x.cons_inv
    rw [List.eraseP_cons, numOf_eq a]
    show ∃ js, _ ∧ kinds js = (kindT j :: kinds ks').erase (kindT k)
    rw [List.erase_cons]
    cases hb : kindT j == kindT k with
    | true => exact ⟨ks', by simpa using x', by simp⟩
    | false =>
      obtain ⟨js, y, hj⟩ := Ths.erase k x'
      exact ⟨j :: js, by simpa using y.cons a, by simp [kinds] at hj ⊢; exact hj⟩

section
variable {prog : Program} {w : World} {A : Around} {E : Value → Shared → Prop} {s : Shared} {env : Env} {S₀ : Heap} {s₀ : Shared} {outer : List Env} {B S : Heap} {L : Addr} {m : Str → Option Value}

theorem stX {x : Str} {v : Value} {Q : Unit → Shared → Prop} (X : FrmX S₀ s₀ outer B S L s m)
    (h : ∀ h', FrmX S₀ s₀ outer B S L { s with heap := h', toks := s.toks + 1 } (upd m x v) → (∀ b, b ≠ L → h'.get? b = s.heap.get? b) → Q () { s with heap := h', toks := s.toks + 1 })
    (hk : env.scope.kind = .function := by rfl) (hl : env.kindOf x = some .local := by rfl) (hL : env.locals = L := by rfl) :
    wpAny (model prog w) A (storeName env x v) Q E s :=
  stL X.F (fun h' F' hk' => h h' (X.step F' (fun b hb o e => (hk' b (fun z => X.ne (z ▸ hb))).trans e) X.off) hk') hk hl hL

/-- a new object of its own -/
theorem FrmX.grow {h' : Heap} (X : FrmX S₀ s₀ outer B S L s m) (hk : Sub s.heap h') (tk : Nat) : FrmX S₀ s₀ outer B S L { s with heap := h', toks := tk } m :=
  X.step (X.F.grow hk tk) (fun b _ o e => hk b o e) X.off
theorem FrmX.upd {h' : Heap} {a : Addr} (X : FrmX S₀ s₀ outer B S L s m) (O : Own S₀ B S L a) (ha : a ∉ frs outer) (hs : Heap.ExtBut a s.heap h') (tk : Nat) : FrmX S₀ s₀ outer B S L { s with heap := h', toks := tk } m :=
  X.step (X.F.upd O hs tk) (fun b hb o e => hs b o (fun z => ha (z ▸ hb)) e) X.off
theorem FrmX.not_frame (X : FrmX S₀ s₀ outer B S L s m) {a : Addr} (ha : s.heap.get? a = none) : a ∉ frs outer := fun q => by
  obtain ⟨env, he, hf⟩ := List.mem_filterMap.mp q
  obtain ⟨_, L', o, _, _, hf', ho, _⟩ := X.here env he
  rw [hf] at hf'; cases hf'
  rw [ho] at ha; cases ha
end
end Mine

namespace Mine
open PySem.SeqAt PySem.MeetsSeq

abbrev xFA : Str := Str.ofString "first_args"
abbrev xSA : Str := Str.ofString "second_args"
abbrev xFU : Str := Str.ofString "first_unhashable"
abbrev xSU : Str := Str.ofString "second_unhashable"
abbrev xTt : Str := Str.ofString "t"
abbrev xElem : Str := Str.ofString "elem"

theorem isPerm_step {k : Nat} {a b : List Nat} : (k :: a).isPerm b = (b.contains k && a.isPerm (b.erase k)) := rfl

section
variable {prog : Program} {w : World} {A : Around} {E : Value → Shared → Prop} {s : Shared}

set_option maxHeartbeats 2000000 in
theorem compare_spec {S : Heap} {l₁ l₂ : Addr} {vs us : List Value} {ks js : List Nat} {outer : List Env} {Q : Value → Shared → Prop} (G : Gnd S) (hS : Sub S s.heap) (hl₁ : S.PlainList l₁ vs.toArray) (ht₁ : Ths S vs ks) (hl₂ : S.PlainList l₂ us.toArray) (ht₂ : Ths S us js)
    (hlen₁ : vs.length ≤ 100) (hlen₂ : us.length ≤ 100) (hh : A.handled = none) (hA : A.frames = some outer) (ok : FrsOk s.heap outer) (hfs : ∀ b ∈ frs outer, S.get? b = none) (hdep : A.depth + 1 < recursionLimit) (hu : A.units + 40 < cLine)
    (h : ∀ s', ExtF (frs outer) S s S s' → Q (.bool ((dk (kinds ks)).isPerm (dk (kinds js)))) s') : wpAny (model prog w) A (call (.ref 36) [.ref l₁, .ref l₂]) Q E s := by
  refine call_fnX (fd := fdCmp) (body := bodyOf 3) (binds := [(xFA, .ref l₁), (xSA, .ref l₂)]) G hS rfl rfl (by omega) (BindsTo.of_eq rfl) (locs rfl) ok hfs ?_
  intro s₁ X
  have hfr : (A.deeper (callEnv fdCmp s.heap.objs.size 36)).frames = some (callEnv fdCmp s.heap.objs.size 36 :: outer) := Around.frames_deeper hA
  refine wpAny_execs_cons ?_
  refine wpAny_Assign_Name ?_
  refine eval_call1 G X.F.sub (a := 29) rfl rfl (ldL X.F (v := .ref l₁) rfl ⟨X.F.sub, ?_⟩)
  refine unh_spec G X.F.sub hl₁ ht₁ (by omega) (fun _ => stop_none hh) (by show A.depth + 1 < _; omega) (by show A.units + 3 + 20 < _; omega) fun S₂ s₂ a x₂ hp₂ => ?_
  have X₂ := X.after x₂
  refine stX X₂ fun h₃ X₃ hk₃ => ?_
  have G₂ := G.mono x₂.le
  refine wpAny_execs_cons ?_
  refine wpAny_Assign_Name ?_
  refine eval_call1 G₂ X₃.F.sub (a := 29) rfl rfl (ldL X₃.F (v := .ref l₂) rfl ⟨X₃.F.sub, ?_⟩)
  refine unh_spec G₂ X₃.F.sub (plain_sub hl₂ x₂.le) (ht₂.mono x₂.le) (by omega) (fun _ => stop_none hh) (by show A.depth + 1 < _; omega) (by show A.units + 3 + 20 < _; omega) fun S₄ s₄ b x₄ hp₄ => ?_
  have X₄ := X₃.after x₄
  refine stX X₄ fun h₅ X₅ hk₅ => ?_
  have G₄ := G₂.mono x₄.le
  have hle : Sub S S₄ := fun c o e => x₄.le c o (x₂.le c o e)
  refine wpAny_execs_cons ?_
  refine wpAny_Assign_Name ?_
  refine Call_ ?_
  refine ldB G₄ X₅.F.sub (v := .type "list") rfl ?_
  refine PyProof.Rows.callWith_type1 (spliced_more (ldL X₅.F (v := .ref b) rfl (spliced_none ?_)))
  obtain ⟨nb, hgb⟩ := hp₄
  have lenS : (dedV us js).length ≤ 100 := by have := dedV_len us js; have := ht₂.1; omega
  have lenF : (dedV vs ks).length ≤ 100 := by have := dedV_len vs ks; have := ht₁.1; omega
  refine call_list_seq (hsz := by simp only [List.size_toArray]; unfold sizeLine; omega) b (.inl rfl) (X₅.F.sub _ _ hgb) rfl rfl fun h₆ c hk₆ hg₆ => ?_
  have hn₆ := push_none h₅
  have X₆ := X₅.grow hk₆ (s₄.toks + 1)
  have O₆ := X₅.F.fresh hn₆
  have hnf := X₅.not_frame hn₆
  generalize hd : h₅.objs.size = d at hg₆ hn₆ O₆ hnf
  refine stX X₆ fun h₇ X₇ hk₇ => ?_
  have hp₇ : h₇.PlainList d (dedV us js).toArray := ⟨c, (hk₇ d O₆.ne).trans hg₆⟩
  have T₁ : Ths S₄ (dedV vs ks) (dedK ks) := ths_ded (ht₁.mono hle)
  have T₂ : Ths S₄ (dedV us js) (dedK js) := ths_ded (ht₂.mono hle)
  have done : ∀ {B' S' : Heap} {s' : Shared} {m' : Str → Option Value} (r : Bool), r = (dk (kinds ks)).isPerm (dk (kinds js)) → FrmX S s outer B' S' s.heap.objs.size s' m' → Q (.bool r) s' := fun r hr X' => by
    have x := X'.ext
    rw [hr]
    refine h _ ⟨x.st, x.keep, x.slots, fun _ _ e => e, fun c o e => x.sub c o (x.le c o e), fun _ _ _ => rfl⟩
  refine wpAny_execs_cons ?_
  refine wpAny_Try_except ?_
  refine wpAny_execs_cons ?_
  refine wpAny_For (ldL X₇.F (v := .ref a) rfl ?_)
  refine for_list X₇.F (stop_none hh) (plain_sub hp₂ x₄.le).isList (d :: frs outer)
    (fun i S' h m => m xTt = some (.ref d) ∧ (∃ tv tk, h.PlainList d tv.toArray ∧ tv.length ≤ 100 ∧ Ths S₄ tv tk ∧ ((dk (kinds ks)).drop i).isPerm (kinds tk) = (dk (kinds ks)).isPerm (dk (kinds js))) ∧
      (∀ b o, b ∈ frs outer → s.heap.get? b = some o → ∃ sl, h.get? b = some { o with slots := sl }) ∧ ∀ b ∈ frs outer, S'.get? b = none)
    ⟨rfl, ⟨_, _, hp₇, lenS, T₂, by rw [kinds_dedK]; rfl⟩, X₇.up, X₇.off⟩ (fun i S' h h' m hj hk => ?_) (fun c hc => ?_) ?_ ?_
  · obtain ⟨j1, ⟨tv, tk, j2, j3⟩, j4, j5⟩ := hj
    refine ⟨j1, ⟨tv, tk, j2.at fun o e => hk d (by simp) o e, j3⟩, fun b o hb e => ?_, j5⟩
    obtain ⟨sl, hs⟩ := j4 b o hb e
    exact ⟨sl, hk b (.tail _ hb) _ hs⟩
  · rcases List.mem_cons.mp hc with rfl | hc
    · obtain ⟨n, e⟩ := hp₇; exact ⟨O₆, _, e⟩
    · refine ⟨X₇.own hc, ?_⟩
      obtain ⟨env, he, hf⟩ := List.mem_filterMap.mp hc
      obtain ⟨_, L', o, _, _, hf', ho, _⟩ := X₇.here env he
      rw [hf] at hf'; cases hf'
      exact ⟨o, ho⟩
  · intro i B₁ S₅ s₈ m₁ v hv hSS F₈ hJ hO
    obtain ⟨j1, ⟨tv, tk, j2, j3, j4, j5⟩, j6, j7⟩ := hJ
    have X₈ : FrmX S s outer B₁ S₅ s.heap.objs.size s₈ (upd m₁ xElem v) := ⟨F₈, j6, fun b hb => (hO b (.tail _ hb)).offB, j7, ok, X.ne⟩
    obtain ⟨k, hk, hT⟩ := T₁.get (by simpa using hv)
    have hkk : (dk (kinds ks))[i]? = some (kindT k) := by
      rw [← kinds_dedK]; simp [kinds, hk]
    have hdrop : (dk (kinds ks)).drop i = kindT k :: (dk (kinds ks)).drop (i + 1) := by
      have hi : i < (dk (kinds ks)).length := by
        rcases Nat.lt_or_ge i (dk (kinds ks)).length with q | q
        · exact q
        · rw [List.getElem?_eq_none q] at hkk; cases hkk
      rw [List.drop_eq_getElem_cons hi]
      rw [List.getElem?_eq_getElem hi] at hkk
      rw [Option.some.inj hkk]
    rw [hdrop, isPerm_step, ← j4.any_kind k] at j5
    have Od := hO d (by simp)
    refine wpAny_execs_cons ?_
    refine wpAny_Expr_any ?_
    refine MethodCall_ (ldL F₈ (v := .ref d) j1 ?_)
    refine getMethod_list_of PySem.F.slot_list_remove PySem.F.type_list_remove j2.isList (plain_no_dict j2) ?_
    refine callWith_method1 (spliced_more (ldL F₈ (v := v) rfl (spliced_none ?_)))
    refine remove_call (fun y => kindT (numOf S₄ y) == kindT k) j2 (by omega) (fun y hy => ?_) (fun ha h' hp' hs' => ?_) (fun ha => ⟨hh, fun h' tk' e NE => ?_⟩)
    · obtain ⟨i', hi'⟩ := List.getElem?_of_mem hy
      obtain ⟨k', hk', hT'⟩ := j4.get hi'
      rw [numOf_eq hT']
      exact eq_things ((hT'.mono hSS).mono F₈.sub) ((hT.mono hSS).mono F₈.sub) (by show A.units + 3 + 1 + 4 < _; omega)
    · refine wpAny_execs_nil ?_
      obtain ⟨tk₂, t2, t3⟩ := j4.erase k
      rw [ha, Bool.true_and] at j5
      have hnf' : ∀ b ∈ frs outer, b ≠ d := fun b hb z => hnf (z ▸ hb)
      refine ⟨S₅, _, fun _ _ e => e, F₈.upd Od hs'.extBut s₈.toks, ⟨j1, ⟨_, tk₂, hp', ?_, t2, by rw [t3]; exact j5⟩, fun b o hb e => ?_, j7⟩, hO⟩
      · have := List.length_eraseP_le (p := fun y => kindT (numOf S₄ y) == kindT k) (l := tv)
        omega
      · obtain ⟨sl, hs⟩ := j6 b o hb e
        exact ⟨sl, hs'.extBut b _ (hnf' b hb) hs⟩
    · rw [ha, Bool.false_and] at j5
      have X₉ := X₈.grow NE.keeps tk'
      obtain ⟨oe, te, he, hce, hde⟩ := NE.there
      have Oe := X₈.F.fresh NE.new
      have hnfe := X₈.not_frame NE.new
      have okE := X₉.frames (env := callEnv fdCmp s.heap.objs.size 36) (show ScopeKind.function ≠ ScopeKind.module by decide) rfl
      show wpAny _ _ (noteFrame _ _) _ _ _
      refine note_new (L := s.heap.objs.size) hfr okE rfl he hde rfl rfl hce fun h₁₀ T k₁₀ hTn xa₁₀ => ?_
      have X₁₀ := X₉.fly rfl k₁₀ (fun b hb => by rw [List.mem_singleton.mp hb]; exact ⟨Oe, hnfe⟩)
      have OT := X₉.F.fresh hTn
      have hnT := X₉.not_frame hTn
      refine came_back rfl xa₁₀ fun h₁₁ hs₁₁ xa₁₁ => ?_
      have X₁₁ := X₁₀.upd OT hnT hs₁₁.extBut tk'
      refine note_again (L := s.heap.objs.size) rfl xa₁₁ ?_
      refine set_flight xa₁₁ fun h₁₂ hs₁₂ xa₁₂ => ?_
      have X₁₂ := X₁₁.upd OT hnT hs₁₂.extBut tk'
      refine wpAny_handleBy_builtin (X := "ValueError") (T := "ValueError") (b := true) (isSubtype_of_subB (by decide +kernel)) (isSubtype_of_subB (by decide +kernel)) (isSubtype_of_subB (by decide +kernel)) ?_
      refine ldB (G₄.mono hSS) X₁₂.F.sub (v := .type "ValueError") rfl ⟨rfl, ?_, ?_⟩
      · obtain ⟨oe', vs', he', hc', _⟩ := xa₁₂.exc
        exact ⟨oe', he', hc'⟩
      · refine set_flight xa₁₂ fun h₁₃ hs₁₃ xa₁₃ => ?_
        have X₁₃ := X₁₂.upd OT hnT hs₁₃.extBut tk'
        refine wpAny_execs_cons (wpAny_Return_some (wpAny_Constant_bool ?_))
        exact done false j5 X₁₃
  · intro S₅ s₈ m₁ hSS F₈ hJ hO
    obtain ⟨j1, ⟨tv, tk, j2, j3, j4, j5⟩, j6, j7⟩ := hJ
    have X₈ : FrmX S s outer _ S₅ s.heap.objs.size s₈ m₁ := ⟨F₈, j6, fun b hb => (hO b (.tail _ hb)).offB, j7, ok, X.ne⟩
    have hdrop : (dk (kinds ks)).drop (dedV vs ks).toArray.size = [] := by
      refine List.drop_of_length_le ?_
      rw [← kinds_dedK]
      simp [kinds, T₁.1]
    rw [hdrop] at j5
    refine wpAny_execs_nil ?_
    refine wpAny_execs_nil ?_
    refine wpAny_execs_cons ?_
    refine wpAny_Return_some ?_
    refine UnaryOp_ (ldL F₈ (v := .ref d) j1 ?_)
    refine not_of ?_
    refine wpAny_truthy_list j2.isList (by simp only [List.size_toArray]; omega) ?_
    refine done _ ?_ (X₈.toks _)
    rw [← j5, Bool.not_not]
    show tv.toArray.isEmpty = (kinds tk).isEmpty
    have : tv.length = (kinds tk).length := by rw [j4.1]; simp [kinds]
    rw [Bool.eq_iff_iff]
    simp only [List.isEmpty_toArray, List.isEmpty_iff_length_eq_zero]
    omega
end
end Mine

namespace Mine
open PySem.SeqAt PySem.MeetsSeq

def wdT : Nat → WData
  | 0 => .int 0 | 1 => .bool false | 2 => .int 1 | 3 => .bool true | 4 => .int 2 | 5 => .str (Str.ofString "a") | 6 => .str (Str.ofString "") | 7 => .none | 8 => .tuple [.int 1] | _ => .tuple [.bool true]
def hashT (P : Params) (k : Nat) : Int := hashW P (wdT k)

theorem hash_of_kind (P : Params) {i j : Nat} (hi : i < 10) (hj : j < 10) (h : kindT i = kindT j) : hashT P i = hashT P j := by
  have key : ∀ i : Fin 10, ∀ j : Fin 10, kindT i.1 = kindT j.1 → i.1 = j.1 ∨ (i.1 = 0 ∧ j.1 = 1) ∨ (i.1 = 1 ∧ j.1 = 0) ∨ (i.1 = 2 ∧ j.1 = 3) ∨ (i.1 = 3 ∧ j.1 = 2) ∨ (i.1 = 8 ∧ j.1 = 9) ∨ (i.1 = 9 ∧ j.1 = 8) := by decide +kernel
  have e01 : hashT P 0 = hashT P 1 := by
    show hashW P (.int 0) = hashW P (.bool false)
    simp only [hashW]; decide +kernel
  have e23 : hashW P (.int 1) = hashW P (.bool true) := by
    simp only [hashW]; decide +kernel
  have e89 : hashT P 8 = hashT P 9 := by
    show hashW P (.tuple [.int 1]) = hashW P (.tuple [.bool true])
    rw [hashW, hashW, hashesW, hashesW, e23]
    rfl
  have k0 := key ⟨i, hi⟩ ⟨j, hj⟩ h
  simp only at k0
  rcases k0 with rfl | ⟨rfl, rfl⟩ | ⟨rfl, rfl⟩ | ⟨rfl, rfl⟩ | ⟨rfl, rfl⟩ | ⟨rfl, rfl⟩ | ⟨rfl, rfl⟩
  · rfl
  · exact e01
  · exact e01.symm
  · exact e23
  · exact e23.symm
  · exact e89
  · exact e89.symm

theorem TAt.well {P : Params} {h : Heap} {v : Value} {k : Nat} (x : TAt h v k) (hk : k < 10) : Well P h v (wdT k) := by
  cases x with
  | i0 t => exact .int _ _
  | f => exact .bool _
  | i1 t => exact .int _ _
  | t => exact .bool _
  | i2 t => exact .int _ _
  | sa t => exact .str _ _
  | se t => exact .str _ _
  | n => exact .none
  | tu1 e => exact .tuple e (.cons (.int _ _) .nil)
  | tuT e => exact .tuple e (.cons (.bool _) .nil)
  | l1 e => exact absurd hk (by decide)
  | lT e => exact absurd hk (by decide)
  | d1 e d => exact absurd hk (by decide)
  | dT e d => exact absurd hk (by decide)
  | tl e d => exact absurd hk (by decide)
  | le e => exact absurd hk (by decide)
theorem wdT_key : ∀ k < 10, (wdT k).isDKey = true ∧ (wdT k).depth ≤ 2 := by decide +kernel

section
variable {prog : Program} {w : World} {A : Around} {E : Value → Shared → Prop} {s : Shared}

theorem hash_thing {v : Value} {k : Nat} {Q : Int → Shared → Prop} (x : TAt s.heap v k) (hk : k < 10) (hu : A.units + 4 < cLine) (h : ∀ tk, Q (hashT w.params k) { s with toks := tk }) : wpAny (model prog w) A (pyHash v) Q E s := by
  have := wdT_key k hk
  exact pyHash_laid (wdT k) v A s Q this.1 (x.well hk) (by omega) h

theorem quiet_tuple {a : Addr} {o : Obj} {u : Value} {n : Nat} {Q : Bool → Shared → Prop} (ho : s.heap.get? a = some o) (hc : o.cls = .type "tuple") (hd : o.data = .seq #[u] n) (hv : carriedByValue u = true) (h : Q true s) : wpAny (model prog w) A (eqIsQuiet 8 (.ref a)) Q E s := by
  have hT : s.TypeIs (.ref a) "tuple" := ⟨_, ho, hc⟩
  unfold eqIsQuiet
  refine wpAny_bind (wpAny_specialOf hT PySem.F.slot_tuple_eq.lookup ?_)
  show wpAny _ _ (isInstance (.ref a) (.type "tuple") >>= _) _ _ s
  refine wpAny_bind (wpAny_isInstance hT isSubtype_tuple_tuple ?_)
  simp only [Bool.not_true, Bool.false_eq_true, if_false]
  refine wpAny_bind (wpAny_seqItems ho hd ?_)
  refine wpAny_bind ?_
  show wpAny _ _ (forIn #[u] _ _) _ _ s
  rw [← Array.forIn_toList]
  refine wpAny_forIn_list _ (fun rest r s' => r.1 = none ∧ s' = s ∧ ∀ v ∈ rest, carriedByValue v = true) _ ?_ ?_ _ _ ⟨rfl, rfl, fun v hm => (List.mem_singleton.mp hm) ▸ hv⟩
  · rintro v rest r s' ⟨hr, rfl, hall⟩
    rw [eqIsQuiet_byValue _ (hall v List.mem_cons_self)]
    refine wpAny_bind (wpAny_pure ?_)
    simp only [Bool.not_true, Bool.false_eq_true, if_false]
    exact wpAny_pure ⟨rfl, rfl, fun u hu' => hall u (List.mem_cons_of_mem _ hu')⟩
  · rintro ⟨r1, r2⟩ s' ⟨hr, rfl, _⟩
    simp only at hr
    subst hr
    exact wpAny_pure h

theorem quiet_thing {v : Value} {k : Nat} {Q : Bool → Shared → Prop} (x : TAt s.heap v k) (hk : k < 10) (h : Q true s) : wpAny (model prog w) A (eqIsQuiet 8 v) Q E s := by
  cases x with
  | i0 t => exact wpAny_of_eq (eqIsQuiet_byValue 8 rfl) h
  | f => exact wpAny_of_eq (eqIsQuiet_byValue 8 rfl) h
  | i1 t => exact wpAny_of_eq (eqIsQuiet_byValue 8 rfl) h
  | t => exact wpAny_of_eq (eqIsQuiet_byValue 8 rfl) h
  | i2 t => exact wpAny_of_eq (eqIsQuiet_byValue 8 rfl) h
  | sa t => exact wpAny_of_eq (eqIsQuiet_byValue 8 rfl) h
  | se t => exact wpAny_of_eq (eqIsQuiet_byValue 8 rfl) h
  | n => exact wpAny_of_eq (eqIsQuiet_byValue 8 rfl) h
  | tu1 e => exact quiet_tuple e rfl rfl rfl h
  | tuT e => exact quiet_tuple e rfl rfl rfl h
  | l1 e => exact absurd hk (by decide)
  | lT e => exact absurd hk (by decide)
  | d1 e d => exact absurd hk (by decide)
  | dT e d => exact absurd hk (by decide)
  | tl e d => exact absurd hk (by decide)
  | le e => exact absurd hk (by decide)

theorem mayTell_things {v : Value} {k : Nat} {stored : List Value} {Q : Bool → Shared → Prop} (x : TAt s.heap v k) (hk : k < 10) (hs : ∀ u ∈ stored, ∃ j, j < 10 ∧ TAt s.heap u j) (h : Q false s) : wpAny (model prog w) A (tableMayTell v stored) Q E s := by
  unfold tableMayTell
  cases he : stored.isEmpty with
  | true => simp only [if_true]; exact wpAny_pure h
  | false =>
    simp only [Bool.false_eq_true, if_false]
    refine wpAny_bind (quiet_thing x hk ?_)
    simp only [Bool.not_true, Bool.false_eq_true, if_false]
    refine wpAny_bind ?_
    refine wpAny_forIn_list _ (fun rest r s' => r.1 = none ∧ s' = s ∧ ∀ u ∈ rest, ∃ j, j < 10 ∧ TAt s.heap u j) _ ?_ ?_ _ _ ⟨rfl, rfl, hs⟩
    · rintro u rest r s' ⟨hr, rfl, hall⟩
      obtain ⟨j, hj, hT⟩ := hall u List.mem_cons_self
      refine wpAny_bind (quiet_thing hT hj ?_)
      simp only [Bool.not_true, Bool.false_eq_true, if_false]
      exact wpAny_pure ⟨rfl, rfl, fun z hz => hall z (List.mem_cons_of_mem _ hz)⟩
    · rintro ⟨r1, r2⟩ s' ⟨hr, rfl, _⟩
      simp only at hr
      subst hr
      exact wpAny_pure h
end
end Mine

namespace Mine
open PySem.SeqAt PySem.MeetsSeq

/-- a table whose keys are things, one of a kind -/
structure Ents (w : World) (S : Heap) (es : Array DictEntry) : Prop where
  each : ∀ e ∈ es, ∃ j, j < 10 ∧ TAt S e.key j ∧ e.hash = hashT w.params j
  uniq : ∀ i j (hi : i < es.size) (hj : j < es.size), kindT (numOf S es[i].key) = kindT (numOf S es[j].key) → i = j

theorem findIdx_congr {α : Type} {p q : α → Bool} (l : Array α) (h : ∀ e ∈ l, p e = q e) : l.findIdx? p = l.findIdx? q := by
  cases hp : l.findIdx? p with
  | none =>
    symm
    rw [Array.findIdx?_eq_none_iff] at hp ⊢
    intro e he
    rw [← h e he]; exact hp e he
  | some i =>
    symm
    rw [Array.findIdx?_eq_some_iff_getElem] at hp ⊢
    obtain ⟨hlt, h1, h2⟩ := hp
    exact ⟨hlt, by rw [← h _ (Array.getElem_mem hlt)]; exact h1, fun j hj => by rw [← h _ (Array.getElem_mem _)]; exact h2 j hj⟩

section
variable {prog : Program} {w : World} {A : Around} {E : Value → Shared → Prop} {s : Shared}

theorem find_thing {S : Heap} {d : Addr} {o : Obj} {es : Array DictEntry} {ep : Nat} {key : Value} {k : Nat} {Q : Option Nat → Shared → Prop} (ho : s.heap.get? d = some o) (hd : o.data = .dict es ep) (hE : Ents w S es) (hS : Sub S s.heap)
    (hT : TAt S key k) (hk : k < 10) (hu : A.units + 4 < cLine) (h : Q (es.findIdx? fun e => kindT (numOf S e.key) == kindT k) s) : wpAny (model prog w) A (dictFind d key (hashT w.params k)) Q E s := by
  have eqE : ∀ e ∈ es, EqAt A s e.key key (kindT (numOf S e.key) == kindT k) := fun e he => by
    obtain ⟨j, hj, hTj, _⟩ := hE.each e he
    rw [numOf_eq hTj]
    exact eq_things (hTj.mono hS) (hT.mono hS) hu
  have nokey : ∀ j (hj : j < es.size), ((es[j]?.map (·.hash)) == some (hashT w.params k)) = false → (kindT (numOf S es[j].key) == kindT k) = false := by
    intro j hj hp
    obtain ⟨i, hi, hTi, hh⟩ := hE.each es[j] (Array.getElem_mem hj)
    cases hc : (kindT (numOf S es[j].key) == kindT k) with
    | false => rfl
    | true =>
      rw [numOf_eq hTi, beq_iff_eq] at hc
      rw [Array.getElem?_eq_getElem hj, Option.map_some, hh, hash_of_kind w.params hi hk hc] at hp
      simp at hp
  unfold dictFind
  try with_reducible refine wpAny_holding ?_
  refine wpAny_bind (wpAny_dictEntries ho hd ?_)
  dsimp only
  have old : wpAny (model prog w) A (dictWalkPlain d key (hashT w.params k) es (placesWithHash es.size (fun i => es[i]?.map (·.hash)) (hashT w.params k))) Q E s := by
    refine wpAny_bind ?_
    refine wpAny_forIn_list _
      (fun rest b s' => s' = s ∧ b = (none, ()) ∧ ∃ i, rest = (List.range' i (es.size - i)).filter (fun i => (es[i]?.map (·.hash)) == some (hashT w.params k)) ∧ i ≤ es.size ∧
        ∀ j (hj : j < es.size), j < i → (kindT (numOf S es[j].key) == kindT k) = false) _ ?_ ?_ _ _
      ⟨rfl, rfl, 0, by rw [placesWithHash, List.range_eq_range', Nat.sub_zero], Nat.zero_le _, fun _ _ h => absurd h (Nat.not_lt_zero _)⟩
    · rintro x rest b s' ⟨rfl, rfl, i, hr, hi, hno⟩
      obtain ⟨hix, hxn, hpx, hskip, hrest⟩ := filter_range'_cons _ _ _ _ _ hr.symm
      have hlt : x < es.size := by omega
      have hnext : (kindT (numOf S es[x].key) == kindT k) = false → ∃ i, rest = (List.range' i (es.size - i)).filter (fun i => (es[i]?.map (·.hash)) == some (hashT w.params k)) ∧ i ≤ es.size ∧
          ∀ j (hj : j < es.size), j < i → (kindT (numOf S es[j].key) == kindT k) = false := fun hne =>
        ⟨x + 1, by rw [hrest]; congr 2; omega, hlt, fun j hj hji => by
          rcases Nat.lt_or_ge j i with h | h
          · exact hno j hj h
          · rcases Nat.lt_or_ge j x with h' | h'
            · exact nokey j hj (hskip j h h')
            · have : j = x := by omega
              subst this; exact hne⟩
      simp only [Array.getElem?_eq_getElem hlt]
      by_cases hh : (es[x].hash == hashT w.params k) = true
      · rw [if_pos hh]
        refine wpAny_bind (wpAny_dictEpoch ho hd (wpAny_bind (eqE _ (Array.getElem_mem hlt) prog w E _ (wpAny_bind (wpAny_dictEpoch ho hd ?_)))))
        show wpAny _ _ (if (ep != ep) = true then _ else _) _ E _
        rw [if_neg (by simp)]
        cases hc : (kindT (numOf S es[x].key) == kindT k) with
        | true =>
          have : (es.findIdx? fun e => kindT (numOf S e.key) == kindT k) = some x :=
            Array.findIdx?_eq_some_iff_getElem.mpr ⟨hlt, hc, fun j hji => by
              rcases Nat.lt_or_ge j i with h | h
              · rw [hno j (by omega) h]; exact Bool.false_ne_true
              · rw [nokey j (by omega) (hskip j h hji)]; exact Bool.false_ne_true⟩
          rw [this] at h
          exact wpAny_bind (wpAny_rule (wpAny_pure (wpAny_pure h)))
        | false => exact wpAny_bind (wpAny_rule (wpAny_pure ⟨rfl, rfl, hnext hc⟩))
      · rw [if_neg hh]
        refine wpAny_pure ⟨rfl, rfl, hnext (nokey x hlt ?_)⟩
        rw [Array.getElem?_eq_getElem hlt, Option.map_some]
        simpa using hh
    · rintro b s' ⟨rfl, rfl, i, hr, hi, hno⟩
      have hall : ∀ j, i ≤ j → j < es.size → ((es[j]?.map (·.hash)) == some (hashT w.params k)) = false := by
        intro j h1 h2
        have := List.filter_eq_nil_iff.mp hr.symm j (List.mem_range'_1.mpr ⟨h1, by omega⟩)
        simpa using this
      have : (es.findIdx? fun e => kindT (numOf S e.key) == kindT k) = none :=
        Array.findIdx?_eq_none_iff.mpr fun e he => by
          obtain ⟨j, hj, rfl⟩ := Array.mem_iff_getElem.mp he
          rcases Nat.lt_or_ge j i with h | h
          · exact hno j hj h
          · exact nokey j hj (hall j h hj)
      rw [this] at h
      exact wpAny_pure h
  have rest : wpAny (model prog w) A (do
      let places := placesWithHash es.size (fun i => es[i]?.map (·.hash)) (hashT w.params k)
      let stored := places.filterMap fun i => es[i]?.map (·.key)
      if (key :: stored).all carriedByValue then return ← dictWalkPlain d key (hashT w.params k) es places
      if let .ref _ := key then
        if es.any fun e => e.key == key && e.hash != hashT w.params k then unsupported "dict.find:a-stored-key-whose-hash-has-changed"
      let tells ← if stored == [key] then pure false else tableMayTell key stored
      if tells && stored.length ≥ 2 then unsupported "dict.find:order-among-keys-of-one-hash"
      let mut hit : Option Nat := none
      for i in places do
        if let some e := es[i]? then
          if e.hash == hashT w.params k then
            let before ← dictEpoch d (keyPart key)
            let same ← eqBool e.key key
            if (← dictEpoch d (keyPart key)) != before then unsupported "dict.changed-during-lookup"
            if same then
              if hit.isSome then unsupported "dict.find:order-among-keys-of-one-hash"
              rule "dict.find.hit"
              if stored.length < 2 then return some i
              hit := some i
            else
              rule "dict.find.same-hash-other-key"
              if tells && !(0 ≤ hashT w.params k && hashT w.params k < 32) then unsupported "dict.find:asked-again-or-not-hangs-on-the-table"
      return hit) Q E s := by
    dsimp only
    by_cases hall : ((key :: (placesWithHash es.size (fun i => es[i]?.map (·.hash)) (hashT w.params k)).filterMap fun i => es[i]?.map (·.key)).all carriedByValue) = true
    · rw [if_pos hall]; exact old
    rw [if_neg hall]
    have anyF : (es.any fun e => e.key == key && e.hash != hashT w.params k) = false := by
      rw [Array.any_eq_false]
      intro i hi
      obtain ⟨j, hj, hTj, hh⟩ := hE.each es[i] (Array.getElem_mem hi)
      rw [Bool.and_eq_true]
      rintro ⟨h1, h2⟩
      have e1 := eq_of_beq h1
      rw [e1] at hTj
      have e2 := hTj.unique hT
      subst e2
      rw [hh] at h2
      simp at h2
    simp only [anyF, Bool.false_eq_true, if_false]
    have hst : ∀ u ∈ (placesWithHash es.size (fun i => es[i]?.map (·.hash)) (hashT w.params k)).filterMap (fun i => es[i]?.map (·.key)), ∃ j, j < 10 ∧ TAt s.heap u j := by
      intro u hu'
      obtain ⟨i, _, hi⟩ := List.mem_filterMap.mp hu'
      cases he : es[i]? with
      | none => rw [he] at hi; cases hi
      | some e =>
        rw [he] at hi
        obtain rfl : e.key = u := by simpa using hi
        obtain ⟨j, hj, hTj, _⟩ := hE.each e (Array.mem_of_getElem? he)
        exact ⟨j, hj, hTj.mono hS⟩
    generalize hstored : (placesWithHash es.size (fun i => es[i]?.map (·.hash)) (hashT w.params k)).filterMap (fun i => es[i]?.map (·.key)) = stored at hst hall ⊢
    have tail : wpAny (model prog w) A (if (stored == [key]) = true then pure false else tableMayTell key stored) (fun tells s' => tells = false ∧ s' = s) E s := by
      by_cases hs1 : (stored == [key]) = true
      · rw [if_pos hs1]; exact wpAny_pure ⟨rfl, rfl⟩
      · rw [if_neg hs1]; exact mayTell_things (hT.mono hS) hk hst ⟨rfl, rfl⟩
    by_cases hs1 : (stored == [key]) = true
    all_goals
      simp only [hs1, if_true, if_false, Bool.false_eq_true] at tail ⊢
      split
      all_goals
        refine wpAny_bind (wpAny_mono tail (fun tells sT ht => ?_) fun _ _ x => x)
        obtain ⟨rfl, hsT⟩ := ht
        rw [hsT]
        simp only [Bool.false_and, Bool.false_eq_true, if_false]
        refine wpAny_bind ?_
        refine wpAny_forIn_list _
          (fun rest b s' => s' = s ∧ b.1 = none ∧ ∃ i, rest = (List.range' i (es.size - i)).filter (fun i => (es[i]?.map (·.hash)) == some (hashT w.params k)) ∧ i ≤ es.size ∧
            ((b.2 = none ∧ ∀ j (hj : j < es.size), j < i → (kindT (numOf S es[j].key) == kindT k) = false) ∨
             ∃ x, b.2 = some x ∧ x < i ∧ (es.findIdx? fun e => kindT (numOf S e.key) == kindT k) = some x)) _ ?_ ?_ _ _
          ⟨rfl, rfl, 0, by rw [placesWithHash, List.range_eq_range', Nat.sub_zero], Nat.zero_le _, .inl ⟨rfl, fun _ _ h => absurd h (Nat.not_lt_zero _)⟩⟩
        · rintro x rest ⟨b1, b2⟩ s' ⟨rfl, hb1, i, hr, hi, hno⟩
          simp only at hb1 hno
          subst hb1
          obtain ⟨hix, hxn, hpx, hskip, hrest⟩ := filter_range'_cons _ _ _ _ _ hr.symm
          have hlt : x < es.size := by omega
          have hrest' : rest = (List.range' (x + 1) (es.size - (x + 1))).filter (fun i => (es[i]?.map (·.hash)) == some (hashT w.params k)) := by rw [hrest]; congr 2; omega
          have hnext : (kindT (numOf S es[x].key) == kindT k) = false → ((b2 = none ∧ ∀ j (hj : j < es.size), j < x + 1 → (kindT (numOf S es[j].key) == kindT k) = false) ∨
             ∃ y, b2 = some y ∧ y < x + 1 ∧ (es.findIdx? fun e => kindT (numOf S e.key) == kindT k) = some y) := fun hne => by
            rcases hno with ⟨h1, h2⟩ | ⟨y, h1, h2, h3⟩
            · refine .inl ⟨h1, fun j hj hji => ?_⟩
              rcases Nat.lt_or_ge j i with h | h
              · exact h2 j hj h
              · rcases Nat.lt_or_ge j x with h' | h'
                · exact nokey j hj (hskip j h h')
                · have : j = x := by omega
                  subst this; exact hne
            · exact .inr ⟨y, h1, by omega, h3⟩
          simp only [Array.getElem?_eq_getElem hlt]
          by_cases hh : (es[x].hash == hashT w.params k) = true
          · rw [if_pos hh]
            refine wpAny_bind (wpAny_dictEpoch ho hd (wpAny_bind (eqE _ (Array.getElem_mem hlt) prog w E _ (wpAny_bind (wpAny_dictEpoch ho hd ?_)))))
            rw [if_neg (by simp)]
            cases hc : (kindT (numOf S es[x].key) == kindT k) with
            | true =>
              simp only [if_true]
              have hbn : b2 = none ∧ (es.findIdx? fun e => kindT (numOf S e.key) == kindT k) = some x := by
                rcases hno with ⟨h1, h2⟩ | ⟨y, h1, h2, h3⟩
                · exact ⟨h1, Array.findIdx?_eq_some_iff_getElem.mpr ⟨hlt, hc, fun j hji => by
                    rcases Nat.lt_or_ge j i with h | h
                    · rw [h2 j (by omega) h]; exact Bool.false_ne_true
                    · rw [nokey j (by omega) (hskip j h hji)]; exact Bool.false_ne_true⟩⟩
                · obtain ⟨hy, hpy, _⟩ := Array.findIdx?_eq_some_iff_getElem.mp h3
                  have := hE.uniq y x hy hlt ((beq_iff_eq.mp hpy).trans (beq_iff_eq.mp hc).symm)
                  omega
              obtain ⟨hb2, hfx⟩ := hbn
              subst hb2
              rw [if_neg (by simp)]
              refine wpAny_bind (wpAny_rule ?_)
              rw [hfx] at h
              by_cases h2 : stored.length < 2
              · rw [if_pos h2]; exact wpAny_pure (wpAny_pure h)
              · rw [if_neg h2]; exact wpAny_pure ⟨rfl, rfl, x + 1, hrest', hlt, .inr ⟨x, rfl, by omega, hfx⟩⟩
            | false =>
              simp only [Bool.false_eq_true, if_false]
              exact wpAny_bind (wpAny_rule (wpAny_pure ⟨rfl, rfl, x + 1, hrest', hlt, hnext hc⟩))
          · rw [if_neg hh]
            refine wpAny_pure ⟨rfl, rfl, x + 1, hrest', hlt, hnext (nokey x hlt ?_)⟩
            rw [Array.getElem?_eq_getElem hlt, Option.map_some]
            simpa using hh
        · rintro ⟨b1, b2⟩ s' ⟨rfl, hb1, i, hr, hi, hno⟩
          simp only at hb1 hno
          subst hb1
          have hall' : ∀ j, i ≤ j → j < es.size → ((es[j]?.map (·.hash)) == some (hashT w.params k)) = false := by
            intro j h1 h2
            have := List.filter_eq_nil_iff.mp hr.symm j (List.mem_range'_1.mpr ⟨h1, by omega⟩)
            simpa using this
          have : (es.findIdx? fun e => kindT (numOf S e.key) == kindT k) = b2 := by
            rcases hno with ⟨rfl, h2⟩ | ⟨y, rfl, h2, h3⟩
            · exact Array.findIdx?_eq_none_iff.mpr fun e he => by
                obtain ⟨j, hj, rfl⟩ := Array.mem_iff_getElem.mp he
                rcases Nat.lt_or_ge j i with h | h
                · exact h2 j hj h
                · exact nokey j hj (hall' j h hj)
            · exact h3
          rw [this] at h
          exact wpAny_pure h
  split
  next x t =>
    by_cases hstrs : (es.all fun e => isExactStrKey e.key) = true
    · rw [if_pos hstrs]
      have hfun : (es.findIdx? fun e => e.key.isStr x) = es.findIdx? fun e => kindT (numOf S e.key) == kindT k := by
        have hmem : ∀ e ∈ es, e.key.isStr x = (kindT (numOf S e.key) == kindT k) := fun e he => by
          obtain ⟨j, hj, hTj, _⟩ := hE.each e he
          have hstr : isExactStrKey e.key = true := by
            have := Array.all_eq_true_iff_forall_mem.mp hstrs e he
            exact this
          rw [numOf_eq hTj]
          generalize e.key = kk at hTj hstr
          cases hTj <;> first | (cases hstr; done) | skip
          all_goals (cases hT <;> rfl)
        exact findIdx_congr es hmem
      unfold foundByValue
      rw [hfun]
      cases hf : es.findIdx? (fun e => kindT (numOf S e.key) == kindT k) with
      | none =>
        rw [hf] at h
        exact wpAny_pure h
      | some i =>
        rw [hf] at h
        obtain ⟨hlt, hi, _⟩ := Array.findIdx?_eq_some_iff_getElem.mp hf
        simp only [Array.getElem?_eq_getElem hlt]
        refine wpAny_bind (wpAny_dictEpoch ho hd (wpAny_bind (eqE _ (Array.getElem_mem hlt) prog w E _ (wpAny_bind (wpAny_dictEpoch ho hd ?_)))))
        rw [if_neg (by simp), hi]
        exact wpAny_bind (wpAny_rule (wpAny_pure h))
    · rw [if_neg hstrs]
      exact rest
  next => exact rest
end
end Mine

namespace Mine
open PySem.SeqAt PySem.MeetsSeq PySem.Calls
open PySem.W.KFB (if_not if_so slot_get entry_get args_get)

namespace FK
theorem typeCall_dict_0 : checkTypeCall "dict" ⟨[], []⟩ = pure () := by kernel_rfl
theorem newCall_dict_0 : checkBuiltinCall "dict.__new__" ⟨[.type "dict"], []⟩ = pure () := by kernel_rfl
theorem hash_list : typeLookup (.type "list") "__hash__" = pure (some .none) := by rw [typeLookup_type, builtinLookup_eq_fast]; kernel_rfl
theorem hash_dict : typeLookup (.type "dict") "__hash__" = pure (some .none) := by rw [typeLookup_type, builtinLookup_eq_fast]; kernel_rfl
end FK

section
variable {prog : Program} {w : World} {A : Around} {E : Value → Shared → Prop} {s : Shared}

/-- dict() -/
theorem call_dict0 {Q : Value → Shared → Prop} (h : Q (.ref s.heap.objs.size) { s with heap := s.heap.push { cls := .type "dict", data := .dict #[] } }) : wpAny (model prog w) A (call (.type "dict") []) Q E s := by
  have hnew : codeAny (model prog w) A.in1 (.call (.builtin "dict.__new__") ⟨[.type "dict"], []⟩) (wants (fun obj s₁ => obj = .ref s.heap.objs.size ∧ s₁ = { s with heap := s.heap.push { cls := .type "dict", data := .dict #[] } }) E) s := by
    refine codeAny_call_builtin PySem.F.kt_plain_dict_new PySem.F.kt_entry_dict_new (wpAny_of_eq FK.newCall_dict_0 ?_)
    have hsub := PySem.F.kt_sub_dict
    have hmro := PySem.F.kt_mro_dict
    obtain ⟨hp, g, d, tk, os⟩ := s
    unfold Builtin.«dict.__new__»
    wp_walk
    exact ⟨rfl, rfl⟩
  refine callType_codes (Q₁ := fun obj s₁ => obj = .ref s.heap.objs.size ∧ s₁ = { s with heap := s.heap.push { cls := .type "dict", data := .dict #[] } }) PySem.F.kt_called_dict FK.typeCall_dict_0 PySem.F.entry_dict_init hnew ?_
  rintro obj s₁ ⟨rfl, rfl⟩
  have hT : Shared.TypeIs { s with heap := s.heap.push { cls := .type "dict", data := .dict #[] } } (.ref s.heap.objs.size) "dict" := ⟨_, Heap.get?_push_size _ rfl, rfl⟩
  refine ⟨hT, PySem.F.args_dict_init_1 _, ?_⟩
  unfold Builtin.«dict.__init__»
  refine wpAny_bind ?_
  unfold Builtin.Dict.selfAndRest
  refine wpAny_bind (wpAny_notOrdered_dict hT ?_)
  show wpAny _ _ (pure (s.heap.objs.size, ([] : List Value))) _ _ _
  refine wpAny_pure ?_
  show wpAny _ _ (Builtin.Dict.updateCommon "dict.__init__" "dict" s.heap.objs.size [] []) _ _ _
  unfold Builtin.Dict.updateCommon
  show wpAny _ _ (Builtin.Dict.addKeywords s.heap.objs.size [] >>= fun _ => ret .none) _ _ _
  exact wpAny_bind (wpAny_pure (wpAny_pure ⟨rfl, h⟩))

/-- a list or a dict has no hash -/
theorem unhash_ref {a : Addr} {o : Obj} {T : String} {Q : Int → Shared → Prop} (ho : s.heap.get? a = some o) (hc : o.cls = .type T) (hT : typeLookup (.type T) "__hash__" = pure (some .none))
    (hn : (Value.type T == Value.type "builtin_function_or_method") = false) (hl : (s!"unhashable type: '{shownName T}'" : Str).length ≤ sizeLine)
    (hh : A.handled = none) (hu : A.units < cLine) (h : ∀ h' tk e, Heap.NewExc s.heap h' e "TypeError" → E (.ref e) { s with heap := h', toks := tk }) : wpAny (model prog w) A (pyHash (.ref a)) Q E s := by
  have hTy : s.TypeIs (.ref a) T := ⟨_, ho, hc⟩
  show wpAny _ _ (pyHashByItsType (.ref a)) _ _ _
  unfold pyHashByItsType
  refine wpAny_bind (wpAny_cRoomFor_or (.inr hu) ?_)
  refine wpAny_bind (wpAny_specialOf hTy hT ?_)
  rw [if_pos (by decide)]
  refine wpAny_bind (wpAny_rule ?_)
  refine wpAny_bind (wpAny_typeNameOf' hTy hn ?_)
  exact wpAny_bind (wpAny_raiseErrorMade plainExc_TypeError hh h hl)

theorem tuple_unhash {a b : Addr} {Q : Int → Shared → Prop} {n : Nat} (ho : s.heap.get? a = some (tupO [.ref b])) (hb : s.heap.get? b = some (lstO [] n))
    (hh : A.handled = none) (hu : A.units + 4 < cLine) (h : ∀ h' tk e, Heap.NewExc s.heap h' e "TypeError" → E (.ref e) { s with heap := h', toks := tk }) : wpAny (model prog w) A (pyHash (.ref a)) Q E s := by
  refine pyHash_slot (T := "tuple") ⟨_, ho, rfl⟩ PySem.F.slot_tuple_hash PySem.F.entry_tuple_hash (PySem.F.args_tuple_hash_1 _) (beq_builtin_none _) (.inr (by omega)) ?_
  show wpAny _ _ (Builtin.Tuple.tupleItemsOf (.ref a) >>= _) _ _ s
  refine wpAny_bind (wpAny_tupleItemsOf ho rfl ?_)
  refine wpAny_bind ?_
  rw [← Array.forIn_toList]
  show wpAny _ _ (forIn [Value.ref b] _ _) _ _ _
  rw [List.forIn_cons]
  refine wpAny_bind (wpAny_bind ?_)
  exact unhash_ref hb rfl FK.hash_list (by decide) (by decide +kernel) hh (by show A.units + 1 < _; omega) h

/-- a thing from number 10 on has no hash -/
theorem unhash_thing {v : Value} {k : Nat} {Q : Int → Shared → Prop} (x : TAt s.heap v k) (hk : 10 ≤ k) (hh : A.handled = none) (hu : A.units + 4 < cLine)
    (h : ∀ h' tk e, Heap.NewExc s.heap h' e "TypeError" → E (.ref e) { s with heap := h', toks := tk }) : wpAny (model prog w) A (pyHash v) Q E s := by
  cases x with
  | i0 t => exact absurd hk (by decide)
  | f => exact absurd hk (by decide)
  | i1 t => exact absurd hk (by decide)
  | t => exact absurd hk (by decide)
  | i2 t => exact absurd hk (by decide)
  | sa t => exact absurd hk (by decide)
  | se t => exact absurd hk (by decide)
  | n => exact absurd hk (by decide)
  | tu1 e => exact absurd hk (by decide)
  | tuT e => exact absurd hk (by decide)
  | l1 e => exact unhash_ref e rfl FK.hash_list (by decide) (by decide +kernel) hh (by omega) h
  | lT e => exact unhash_ref e rfl FK.hash_list (by decide) (by decide +kernel) hh (by omega) h
  | d1 e d => exact unhash_ref e rfl FK.hash_dict (by decide) (by decide +kernel) hh (by omega) h
  | dT e d => exact unhash_ref e rfl FK.hash_dict (by decide) (by decide +kernel) hh (by omega) h
  | tl e d => exact tuple_unhash e d hh hu h
  | le e => exact unhash_ref e rfl FK.hash_list (by decide) (by decide +kernel) hh (by omega) h
end
end Mine

namespace Mine
open PySem.SeqAt PySem.MeetsSeq PySem.Calls

abbrev dO (es : Array DictEntry) (n : Nat) : Obj := { cls := .type "dict", data := .dict es n }

theorem modify_same {es : Array DictEntry} (hv : ∀ e ∈ es, e.val = .none) (i : Nat) : es.modify i (fun e => { e with val := Value.none }) = es := by
  refine Array.ext (by simp) fun j h1 h2 => ?_
  rw [Array.getElem_modify]
  split
  · have := hv es[j] (Array.getElem_mem h2)
    cases he : es[j] with
    | mk a b c => rw [he] at this; simp only at this; rw [this]
  · rfl

section
variable {prog : Program} {w : World} {A : Around} {E : Value → Shared → Prop} {s : Shared}

theorem set_thing {S : Heap} {d : Addr} {es : Array DictEntry} {n : Nat} {key : Value} {k : Nat} {Q : Unit → Shared → Prop} (ho : s.heap.get? d = some (dO es n)) (hE : Ents w S es) (hval : ∀ e ∈ es, e.val = .none) (hS : Sub S s.heap)
    (hT : TAt S key k) (hk : k < 10) (hsz : es.size ≤ 1000) (hu : A.units + 4 < cLine)
    (h : ∀ h' tk n', h'.get? d = some (dO (if (es.any fun e => kindT (numOf S e.key) == kindT k) = true then es else es.push ⟨hashT w.params k, key, .none⟩) n') → Heap.SameBut d s.heap h' → Q () { s with heap := h', toks := tk }) :
    wpAny (model prog w) A (dictSet d key .none) Q E s := by
  unfold dictSet
  refine wpAny_holding ?_
  refine wpAny_bind (hash_thing (hT.mono hS) hk hu fun tk => ?_)
  unfold dictSetHashed
  refine wpAny_holding ?_
  refine wpAny_bind (find_thing (s := { s with toks := tk }) ho rfl hE hS hT hk hu ?_)
  have hany : ∀ r, (es.findIdx? fun e => kindT (numOf S e.key) == kindT k) = r → (es.any fun e => kindT (numOf S e.key) == kindT k) = r.isSome := fun r hr => by
    rw [← hr, Bool.eq_iff_iff, Array.any_eq_true, Array.findIdx?_isSome]
    rw [Array.any_eq_true]
  cases hi : es.findIdx? fun e => kindT (numOf S e.key) == kindT k with
  | some i =>
    have ha := hany _ hi
    simp only [Option.isSome_some] at ha
    rw [ha] at h
    refine wpAny_bind (wpAny_rule (wpAny_bind (wpAny_updateDict (s := { s with toks := tk }) ho rfl (wpAny_point (h _ tk n ?_ (Heap.SameBut.update ..))))))
    refine (Heap.get?_update_self _ ho rfl).trans ?_
    show some (Obj.mapDict _ _) = _
    unfold Obj.mapDict
    simp only [modify_same hval i, if_true]
  | none =>
    have ha := hany _ hi
    simp only [Option.isSome_none] at ha
    rw [ha] at h
    refine wpAny_bind (wpAny_rule (wpAny_updateDictKeys (hz := by unfold sizeLine; omega) (s := { s with toks := tk }) ho rfl (h _ tk (n + 1) ?_ (Heap.SameBut.update ..))))
    refine (Heap.get?_update_self _ ho rfl).trans ?_
    show some (Obj.mapDictKeys _ _) = _
    unfold Obj.mapDictKeys
    simp
end
end Mine

namespace Mine
open PySem.SeqAt PySem.MeetsSeq PySem.Calls

/-- the table behind the first i things -/
def entsAt (w : World) (vs : List Value) (ks : List Nat) (i : Nat) : Array DictEntry :=
  ((fpl (kinds (ks.take i))).map fun p => (⟨hashT w.params (ks.getD p 0), vs.getD p .none, .none⟩ : DictEntry)).toArray

theorem entsAt_zero (w : World) (vs : List Value) (ks : List Nat) : entsAt w vs ks 0 = #[] := rfl
theorem entsAt_size (w : World) (vs : List Value) (ks : List Nat) (i : Nat) : (entsAt w vs ks i).size ≤ ks.length := by
  unfold entsAt
  simp only [List.size_toArray, List.length_map]
  have h1 := fpl_len (kinds (ks.take i))
  have h2 : (kinds (ks.take i)).length ≤ ks.length := by simp only [kinds, List.length_map, List.length_take]; omega
  omega
theorem fpl_take_lt {ks : List Nat} {i p : Nat} (h : p ∈ fpl (kinds (ks.take i))) : p < i ∧ p < ks.length := by
  have := fpl_lt h
  simp only [kinds, List.length_map, List.length_take] at this
  omega
theorem entsAt_mem {w : World} {vs : List Value} {ks : List Nat} {i : Nat} {e : DictEntry} (h : e ∈ entsAt w vs ks i) : ∃ p, p < i ∧ p < ks.length ∧ p ∈ fpl (kinds (ks.take i)) ∧ e = ⟨hashT w.params (ks.getD p 0), vs.getD p .none, .none⟩ := by
  unfold entsAt at h
  simp only [List.mem_toArray, List.mem_map] at h
  obtain ⟨p, hp, rfl⟩ := h
  have := fpl_take_lt hp
  exact ⟨p, this.1, this.2, hp, rfl⟩

theorem kinds_take_getD (ks : List Nat) {i p : Nat} (h1 : p < i) (h2 : p < ks.length) : (kinds (ks.take i)).getD p 0 = kindT (ks.getD p 0) := by
  rw [kinds_getD _ (by simp only [List.length_take]; omega)]
  have : (ks.take i).getD p 0 = ks.getD p 0 := by simp [List.getD, List.getElem?_take, h1]
  rw [this]

theorem ents_entsAt {w : World} {S : Heap} {vs : List Value} {ks : List Nat} {i : Nat} (x : Ths S vs ks) (h10 : ∀ p, p < i → p < ks.length → ks.getD p 0 < 10) : Ents w S (entsAt w vs ks i) := by
  refine ⟨fun e he => ?_, fun a b ha hb hab => ?_⟩
  · obtain ⟨p, h1, h2, _, rfl⟩ := entsAt_mem he
    exact ⟨ks.getD p 0, h10 p h1 h2, x.at (by rw [x.1]; exact h2), rfl⟩
  · have nd := nodup_dk (kinds (ks.take i))
    unfold dk at nd
    have la : a < (fpl (kinds (ks.take i))).length := by simpa [entsAt] using ha
    have lb : b < (fpl (kinds (ks.take i))).length := by simpa [entsAt] using hb
    have ga : ∀ c (hc : c < (entsAt w vs ks i).size) (lc : c < (fpl (kinds (ks.take i))).length), kindT (numOf S (entsAt w vs ks i)[c].key) = ((fpl (kinds (ks.take i))).map fun p => (kinds (ks.take i)).getD p 0)[c]'(by simpa using lc) := fun c hc lc => by
      have hm := fpl_take_lt (List.getElem_mem lc)
      have e1 : (entsAt w vs ks i)[c].key = vs.getD ((fpl (kinds (ks.take i)))[c]) .none := by simp [entsAt]
      rw [e1, numOf_eq (x.at (by rw [x.1]; exact hm.2))]
      rw [List.getElem_map, kinds_take_getD ks hm.1 hm.2]
    rw [ga a ha la, ga b hb lb] at hab
    exact (List.getElem_inj nd).mp hab

theorem entsAt_val {w : World} {vs : List Value} {ks : List Nat} {i : Nat} : ∀ e ∈ entsAt w vs ks i, e.val = .none := fun e he => by
  obtain ⟨p, _, _, _, rfl⟩ := entsAt_mem he; rfl

theorem entsAt_any {w : World} {S : Heap} {vs : List Value} {ks : List Nat} {i k : Nat} (x : Ths S vs ks) : ((entsAt w vs ks i).any fun e => kindT (numOf S e.key) == kindT k) = (kinds (ks.take i)).contains (kindT k) := by
  rw [← any_fpl]
  unfold entsAt
  rw [List.any_toArray, List.any_map]
  rw [Bool.eq_iff_iff, List.any_eq_true, List.any_eq_true]
  refine exists_congr fun p => and_congr_right fun hp => ?_
  have hm := fpl_take_lt hp
  simp only [Function.comp, numOf_eq (x.at (by rw [x.1]; exact hm.2)), kinds_take_getD ks hm.1 hm.2]

theorem entsAt_succ {w : World} {vs : List Value} {ks : List Nat} {i k : Nat} {v : Value} (hk : ks[i]? = some k) (hv : vs.getD i .none = v) :
    entsAt w vs ks (i + 1) = if (kinds (ks.take i)).contains (kindT k) = true then entsAt w vs ks i else (entsAt w vs ks i).push ⟨hashT w.params k, v, .none⟩ := by
  have hlt : i < ks.length := by
    rcases Nat.lt_or_ge i ks.length with q | q
    · exact q
    · rw [List.getElem?_eq_none q] at hk; cases hk
  have hg : ks.getD i 0 = k := by simp [List.getD, hk]
  unfold entsAt
  rw [fpl_take_snoc hk (by omega)]
  cases (kinds (ks.take i)).contains (kindT k) with
  | true => simp
  | false =>
    simp only [Bool.false_eq_true, if_false, List.map_append, List.map_cons, List.map_nil, hg, hv]
    simp

theorem plain_fk_loop : plainId "dict.fromkeys.loop" = true := by decide +kernel
theorem entry_fk_loop : entryFor table "dict.fromkeys.loop" = some Builtin.«dict.fromkeys.loop» := entryFor_of_tree (by kernel_rfl)

/-- the states of the loop: all but the dict and the iterator is as it was -/
structure FkRel (d it : Addr) (s₀ s : Shared) : Prop where
  st : ∃ h tk, s = { s₀ with heap := h, toks := tk }
  keep : ∀ b o, b ≠ d → b ≠ it → s₀.heap.get? b = some o → s.heap.get? b = some o

/-- a TypeError, new -/
structure NewTE (d it : Addr) (s₀ s : Shared) (e : Addr) : Prop where
  rel : FkRel d it s₀ s
  new : s₀.heap.get? e = none
  ned : e ≠ d
  nei : e ≠ it
  there : ∃ ob t, s.heap.get? e = some ob ∧ ob.cls = .type "TypeError" ∧ ob.data = .fields #[t, .none, .none, .none, .bool false, .none]

section
variable {prog : Program} {w : World} {A : Around} {R : Result → Shared → Prop}

theorem fk_loop {S : Heap} {l d it : Addr} {vs : List Value} {ks : List Nat} {s₀ : Shared} (hl : S.IsList l vs.toArray) (ht : Ths S vs ks) (hlen : ks.length ≤ 1000) (hdi : d ≠ it) (hSd : S.get? d = none) (hSi : S.get? it = none)
    (hh : A.handled = none) (hu : A.units + 10 < cLine)
    (hR : ∀ s' n, FkRel d it s₀ s' → s'.heap.get? d = some (dO (entsAt w vs ks ks.length) n) → (∀ p, p < ks.length → ks.getD p 0 < 10) → R (.ok (.ret (.ref d))) s')
    (hX : ∀ s' e p, NewTE d it s₀ s' e → p < ks.length → 10 ≤ ks.getD p 0 → R (.error (.ref e)) s') :
    ∀ (m i : Nat) (s : Shared) (n : Nat), ks.length - i = m → i ≤ ks.length → FkRel d it s₀ s → Sub S s.heap → s.heap.IsListIter it l i → s.heap.get? d = some (dO (entsAt w vs ks i) n) → (∀ p, p < i → p < ks.length → ks.getD p 0 < 10) →
      (∃ o, s₀.heap.get? d = some o) → (∃ o, s₀.heap.get? it = some o) →
      codeAny (model prog w) A (.builtin "dict.fromkeys.loop" ⟨[.ref d, .ref it, .none], []⟩) R s := by
  intro m
  induction m with
  | zero =>
    intro i s n hm hi rel hS hit hd h10 _ _
    have hin : i = ks.length := by omega
    subst hin
    refine codeAny_builtin entry_fk_loop ?_
    rw [Around.under_plainId plain_fk_loop _]
    unfold Builtin.«dict.fromkeys.loop»
    show wpAny _ _ (pyNext (.ref it) >>= _) _ _ _
    refine wpAny_bind (wpAny_pyNext_list_end hh hit (isList_sub hl hS) (by simp [ht.1]) fun h' he => ?_)
    refine wpAny_pure (hR _ n ⟨?_, fun b o h1 h2 e => he b o h2 (rel.keep b o h1 h2 e)⟩ (he d _ hdi hd) fun p hp => h10 p hp hp)
    obtain ⟨h, tk, rfl⟩ := rel.st
    exact ⟨h', tk, rfl⟩
  | succ m ih =>
    intro i s n hm hi rel hS hit hd h10 hex hexi
    have hlt : i < ks.length := by omega
    have hv : vs.toArray[i]? = some (vs.getD i .none) := by
      have : i < vs.length := by rw [ht.1]; exact hlt
      simp [List.getD, this]
    have hk : ks[i]? = some (ks.getD i 0) := by simp [List.getD, hlt]
    have hT : TAt S (vs.getD i .none) (ks.getD i 0) := ht.at (by rw [ht.1]; exact hlt)
    refine codeAny_builtin entry_fk_loop ?_
    rw [Around.under_plainId plain_fk_loop _]
    unfold Builtin.«dict.fromkeys.loop»
    show wpAny _ _ (pyNext (.ref it) >>= _) _ _ _
    refine wpAny_bind (wpAny_pyNext_list_item hit (isList_sub hl hS) hv fun h₁ hit₁ hs₁ => ?_)
    have hd₁ : h₁.get? d = some (dO (entsAt w vs ks i) n) := (hs₁.2 d hdi).trans hd
    have hS₁ : Sub S h₁ := fun b o e => hs₁.extBut b o (fun z => by rw [z, hSi] at e; cases e) (hS b o e)
    obtain ⟨h, tk, rfl⟩ := rel.st
    dsimp only
    refine wpAny_bind (wpAny_typeOf (T := "dict") ⟨_, hd₁, rfl⟩ ?_)
    rw [if_pos (by decide)]
    refine wpAny_bind (wpAny_pure ?_)
    refine wpAny_bind (wpAny_holding ?_)
    by_cases h10i : ks.getD i 0 < 10
    · refine set_thing hd₁ (ents_entsAt ht h10) entsAt_val hS₁ hT h10i (Nat.le_trans (entsAt_size w vs ks i) hlen) (by show A.units + 1 + 4 < _; omega) fun h₂ tk₂ n₂ hd₂ hs₂ => ?_
      rw [entsAt_any ht, ← entsAt_succ hk rfl] at hd₂
      refine wpAny_pure ⟨plainId_quiet plain_fk_loop _, ?_⟩
      refine ih (i + 1) _ n₂ (by omega) hlt ⟨⟨h₂, tk₂, rfl⟩, fun b o h1 h2 e => hs₂.extBut b o h1 (hs₁.extBut b o h2 (rel.keep b o h1 h2 e))⟩ ?_ ?_ hd₂ (fun p hp hp' => ?_) hex hexi
      · exact fun b o e => hs₂.extBut b o (fun z => by rw [z, hSd] at e; cases e) (hS₁ b o e)
      · exact hit₁.extBut hs₂.extBut hdi.symm
      · rcases Nat.lt_or_ge p i with q | q
        · exact h10 p q hp'
        · have : p = i := by omega
          rw [this]; exact h10i
    · unfold dictSet
      refine wpAny_holding ?_
      refine wpAny_bind (unhash_thing (hT.mono hS₁) (by omega) hh (by show A.units + 1 + 4 < _; omega) fun h' tk' e NE => ?_)
      have hen : h₁.get? e = none := NE.new
      obtain ⟨od, hod⟩ := hex
      obtain ⟨oi, hoi⟩ := hexi
      refine hX _ e i ⟨⟨⟨h', tk', rfl⟩, fun b o h1 h2 q => NE.keeps b o (hs₁.extBut b o h2 (rel.keep b o h1 h2 q))⟩, ?_, ?_, ?_, NE.there⟩ hlt (by omega)
      · cases q : s₀.heap.get? e with
        | none => rfl
        | some o =>
          by_cases e1 : e = d
          · rw [e1, hd₁] at hen; cases hen
          · by_cases e2 : e = it
            · obtain ⟨oit, hoit, _⟩ := hit₁
              rw [e2, hoit] at hen; cases hen
            · rw [hs₁.extBut e o e2 (rel.keep e o e1 e2 q)] at hen; cases hen
      · rintro rfl; rw [hd₁] at hen; cases hen
      · rintro rfl
        obtain ⟨oit, hoit, _⟩ := hit₁
        rw [hoit] at hen; cases hen
end
end Mine

namespace Mine
open PySem.SeqAt PySem.MeetsSeq PySem.Calls
open PySem.W.KFB (if_not if_so slot_get entry_get args_get)

namespace FK
def bound : Obj := { cls := .type "builtin_function_or_method", data := .fields #[.builtin "dict.fromkeys", .type "dict"] }
theorem type_fk : typeOf (.builtin "dict.fromkeys") = pure (.type "classmethod_descriptor") := by show builtinType _ = _; rw [builtinType_eq_fast]; kernel_rfl
theorem entry_fk : entryFor table "dict.fromkeys" = some Builtin.«dict.fromkeys» := entryFor_of_tree (by kernel_rfl)
theorem plain_fk : plainId "dict.fromkeys" = true := by decide +kernel
theorem type_dict : isType (.type "dict") = pure true := by first | rfl | kernel_rfl | (unfold isType; rw [isSubtype_type]; kernel_rfl)
theorem owner_fk : (kfb_private% "ownerAndName") "dict.fromkeys" = ("dict", "fromkeys") := by first | decide +kernel | kernel_rfl
theorem find_fk : findCls [] (.type "dict") (.type "type") (PySem.Str.ofString "fromkeys") = some (.get (.builtin "classmethod_descriptor.__get__") (.builtin "dict.fromkeys") .none (.type "dict")) := by first | decide +kernel | kernel_rfl | rfl
theorem check_fk (a : Addr) : checkBoundCall "dict.fromkeys" ⟨[.type "dict", .ref a], []⟩ = pure () := by first | kernel_rfl | rfl

section
variable {prog : Program} {w : World} {M : Model} {A : Around} {E : Value → Shared → Prop} {s : Shared}

theorem run_get {P : Fin → Shared → Prop} (h : P (.done (.ret (.ref s.heap.objs.size))) { s with heap := s.heap.push bound }) :
    wpAny M A (Builtin.«classmethod_descriptor.__get__» ⟨[.builtin "dict.fromkeys", .none, .type "dict"], []⟩) P E s := by
  unfold Builtin.«classmethod_descriptor.__get__»
  refine wpAny_bind (wpAny_of_eq (a := (.builtin "dict.fromkeys", none, some (.type "dict"))) (by first | rfl | kernel_rfl) ?_)
  simp only [owner_fk]
  refine wpAny_bind (wpAny_of_eq (a := .type "dict") rfl ?_)
  refine wpAny_bind (wpAny_of_eq (a := true) type_dict ?_)
  refine if_not rfl ?_
  refine wpAny_bind (wpAny_of_eq (a := true) PySem.F.kt_sub_dict ?_)
  refine if_not rfl ?_
  exact wpAny_bind (wpAny_newObj_type (wpAny_pure h))

theorem getm {pl : Sem Bool} {Q : Value × List Value → Shared → Prop}
    (h : Q (.ref s.heap.objs.size, []) { s with heap := s.heap.push bound, toks := s.toks + 1 }) : wpAny (model prog w) A (getMethod (.type "dict") (PySem.Str.ofString "fromkeys") pl) Q E s := by
  have X : Frag.In [] s.heap := fun a o e => by cases e
  have hstub : opaqueClassAbove (.type "dict") = pure none := by unfold opaqueClassAbove; dsimp only; rw [show Manifest.isStub "dict" = false by decide +kernel]; rfl
  have ht : typeOf (.type "dict") = pure (.type "type") := by first | rfl | kernel_rfl
  have L0 : Looks (model prog w) s.heap (typeOf (.type "dict")) (.type "type") := Looks.of_pure ht
  have hg : findIn [] (.type "type") "__getattribute__" = some (some (.builtin "type.__getattribute__")) := type_tga
  unfold getMethod specialOf
  refine wpAny_bind (wpAny_bind (L0.here ((looks_findIn X hg).here ?_)))
  dsimp only
  rw [if_pos canon_tga]
  refine wpAny_bind (wpAny_mono (Q := fun v => Q (v, [])) (E := E) ?_ (fun _ _ z => wpAny_pure z) fun _ _ z => z)
  have LO : Looks (model prog w) s.heap (opaqueClassAbove (.type "dict")) none := Looks.of_pure hstub
  refine cls_open X LO L0 hg (looks_hook X (r := none) (by rfl)) (by show subIn [] _ _ = _; rfl) find_fk ?_
  show wpAny _ _ (holding [.builtin "dict.fromkeys"] (call (.builtin "classmethod_descriptor.__get__") [.builtin "dict.fromkeys", .none, .type "dict"]) >>= fun v => ret v) _ _ _
  exact wpAny_bind (wpAny_holding (wpAny_call_entry slot_get type_fk entry_get (run_get ⟨_, rfl, wpAny_pure (wpAny_pure h)⟩) (args_get _ _ _)))

theorem callWith_fields {pos : Pos} {u : Addr} {first : List Value} {args : List (Bool × Sem Value)} {Q : Value → Shared → Prop} (hplain : args.any (·.1) = false)
    (h : wpAny M A (evalArgs (.ref u) true args []) (fun x s₁ => s₁.heap.get? u = some bound ∧ wpAny M A (call (.ref u) (first ++ x.pos) x.kw) Q E s₁) E s) : wpAny M A (callWith pos (.ref u) first args []) Q E s := by
  unfold callWith
  refine wpAny_bind (wpAny_holding (wpAny_mono h (fun x s₁ h₁ => wpAny_bind (wpAny_standAt ?_)) fun _ _ x => x))
  obtain ⟨ho, hcall⟩ := h₁
  simp only [hplain, List.any_nil, Bool.or_false]
  refine wpAny_bind (m := keeperOf (.ref u)) ?_
  unfold keeperOf
  refine wpAny_bind (wpAny_load ho ?_)
  simp only [bound, show (Value.type "builtin_function_or_method" != Value.type "method") = true by decide, show (Value.type "builtin_function_or_method" == Value.type "builtin_function_or_method" || Value.type "builtin_function_or_method" == Value.type "method-wrapper") = true by decide, if_true]
  refine wpAny_pure ?_
  exact wpAny_bind (wpAny_mono hcall (fun r s₂ hr => wpAny_bind (wpAny_holding (wpAny_point (wpAny_pure hr)))) fun _ _ x => x)
theorem callWith_bound {pos : Pos} {u : Addr} {first : List Value} {env : Env} {e : Expr} {rest : List Expr} {Q : Value → Shared → Prop}
    (h : wpAny M A (spliced (backTo pos (starEach (e :: rest) env))) (fun vs s₁ => s₁.heap.get? u = some bound ∧ wpAny M A (call (.ref u) (first ++ vs)) Q E s₁) E s)
    (he : starEach (e :: rest) env = (false, eval e env) :: starEach rest env := by rfl) (hplain : (backTo pos (starEach rest env)).any (·.1) = false := by rfl) :
    wpAny M A (callWith pos (.ref u) first (backTo pos (starEach (e :: rest) env)) []) Q E s := by
  rw [he] at h ⊢
  refine callWith_fields (by show (false || (backTo pos (starEach rest env)).any (·.1)) = false; rw [hplain]; rfl) ?_
  exact evalArgs_plain h
end
end FK

section
variable {prog : Program} {w : World} {A : Around} {E : Value → Shared → Prop} {s : Shared}

theorem fromkeys_call {S : Heap} {l x : Addr} {vs : List Value} {ks : List Nat} {Q : Value → Shared → Prop} (hx : s.heap.get? x = some FK.bound) (hS : Sub S s.heap) (hl : S.IsList l vs.toArray) (ht : Ths S vs ks) (hlen : ks.length ≤ 1000)
    (hh : A.handled = none) (hu : A.units + 20 < cLine)
    (hQ : (∀ p, p < ks.length → ks.getD p 0 < 10) → ∀ h' tk d n, @LE.le Nat _ s.heap.objs.size d → Sub s.heap h' → s.heap.get? d = none → h'.get? d = some (dO (entsAt w vs ks ks.length) n) → Q (.ref d) { s with heap := h', toks := tk })
    (hE : ∀ h' tk e p, p < ks.length → 10 ≤ ks.getD p 0 → Sub s.heap h' → s.heap.get? e = none → (∃ ob t, h'.get? e = some ob ∧ ob.cls = .type "TypeError" ∧ ob.data = .fields #[t, .none, .none, .none, .bool false, .none]) →
      E (.ref e) { s with heap := h', toks := tk }) : wpAny (model prog w) A (call (.ref x) [.ref l]) Q E s := by
  refine wpAny_call (codeAny_of_tree ?_)
  show wpAny _ A.in1 (callAny (.ref x) ⟨[.ref l], []⟩) _ _ s
  simp only [callAny]
  refine wpAny_bind (wpAny_load hx ?_)
  simp only [FK.bound, show (Value.type "builtin_function_or_method" == Value.type "method" || Value.type "builtin_function_or_method" == Value.type "builtin_function_or_method" || Value.type "builtin_function_or_method" == Value.type "method-wrapper") = true by decide, if_true]
  refine if_so (by decide) ?_
  refine wpAny_bind (wpAny_of_eq (a := ()) (FK.check_fk l) ?_)
  refine wpAny_bind (wpAny_pure (wpAny_pure ?_))
  refine ⟨plainId_quiet FK.plain_fk _, codeAny_builtin FK.entry_fk ?_⟩
  rw [Around.under_plainId FK.plain_fk _]
  unfold Builtin.«dict.fromkeys»
  show wpAny _ _ (isType (.type "dict") >>= _) _ _ _
  refine wpAny_bind (wpAny_of_eq FK.type_dict ?_)
  refine if_not rfl ?_
  refine wpAny_bind (wpAny_of_eq PySem.F.kt_sub_dict ?_)
  refine if_not rfl ?_
  refine if_not rfl ?_
  refine wpAny_bind (wpAny_bind (wpAny_rule (wpAny_pure ?_)))
  dsimp only
  refine wpAny_bind (wpAny_pure ?_)
  show wpAny _ _ (call (.type "dict") [] >>= _) _ _ _
  refine wpAny_bind (call_dict0 ?_)
  refine wpAny_holding ?_
  have hl₁ : (s.heap.push { cls := .type "dict", data := .dict #[] }).IsList l vs.toArray := (isList_sub hl hS).push _
  have hTl : Shared.TypeIs { s with heap := s.heap.push { cls := .type "dict", data := .dict #[] } } (.ref l) "list" := hl₁.typeIs
  have hTd : Shared.TypeIs { s with heap := s.heap.push { cls := .type "dict", data := .dict #[] } } (.ref s.heap.objs.size) "dict" := ⟨_, Heap.get?_push_size _ rfl, rfl⟩
  refine wpAny_bind (wpAny_typeOf hTl ?_)
  refine wpAny_bind (wpAny_typeOf hTd ?_)
  refine if_not (by decide) ?_
  refine wpAny_bind (wpAny_typeOf hTd ?_)
  refine if_not (by decide) ?_
  refine wpAny_bind (wpAny_pyIter_list hl₁ ?_)
  have hz : (s.heap.push { cls := .type "dict", data := .dict #[] }).objs.size = s.heap.objs.size + 1 := Heap.size_push ..
  have hdn : s.heap.get? s.heap.objs.size = none := push_none s.heap
  have hin : s.heap.get? (s.heap.objs.size + 1) = none := get?_none_of_size (fun _ _ e => e) (Nat.le_succ _)
  have hne : s.heap.objs.size ≠ s.heap.objs.size + 1 := Nat.ne_of_lt (Nat.lt_succ_self _)
  have sub1 : Sub s.heap ((s.heap.push { cls := .type "dict", data := .dict #[] }).push { cls := .type "list_iterator", data := .fields #[.ref l, .int 0 0] }) := fun b o e => Heap.get?_push_of_some _ (Heap.get?_push_of_some _ e)
  refine wpAny_pure ⟨plainId_quiet plain_fk_loop _, ?_⟩
  rw [hz]
  have gd : ((s.heap.push { cls := .type "dict", data := .dict #[] }).push { cls := .type "list_iterator", data := .fields #[.ref l, .int 0 0] }).get? s.heap.objs.size = some (dO (entsAt w vs ks 0) 0) := Heap.get?_push_of_some _ (Heap.get?_push_size _ rfl)
  have gi : ((s.heap.push { cls := .type "dict", data := .dict #[] }).push { cls := .type "list_iterator", data := .fields #[.ref l, .int 0 0] }).get? (s.heap.objs.size + 1) = some { cls := .type "list_iterator", data := .fields #[.ref l, .int 0 0] } := by
    have := Heap.get?_push_size (s.heap.push { cls := .type "dict", data := .dict #[] }) (o := { cls := .type "list_iterator", data := .fields #[.ref l, .int 0 0] }) rfl
    rw [hz] at this; exact this
  refine fk_loop (S := S) (s₀ := { s with heap := (s.heap.push { cls := .type "dict", data := .dict #[] }).push { cls := .type "list_iterator", data := .fields #[.ref l, .int 0 0] } }) hl ht hlen hne ?_ ?_ hh (by omega) ?_ ?_ ks.length 0 _ 0 (by omega) (Nat.zero_le _)
    ⟨⟨_, _, rfl⟩, fun _ _ _ _ e => e⟩ (fun b o e => sub1 b o (hS b o e)) ⟨_, gi, rfl, rfl⟩ gd (fun p hp => absurd hp (Nat.not_lt_zero _)) ⟨_, gd⟩ ⟨_, gi⟩
  · cases e : S.get? s.heap.objs.size with
    | none => rfl
    | some o => rw [hS _ _ e] at hdn; cases hdn
  · cases e : S.get? (s.heap.objs.size + 1) with
    | none => rfl
    | some o => rw [hS _ _ e] at hin; cases hin
  · rintro s' n ⟨⟨h', tk, rfl⟩, hk⟩ hd h10
    refine hQ h10 h' tk _ n (Nat.le_refl _) (fun b o e => hk b o (fun z => ?_) (fun z => ?_) (sub1 b o e)) hdn hd
    · rw [z, hdn] at e; cases e
    · rw [z, hin] at e; cases e
  · rintro s' e p ⟨⟨⟨h', tk, rfl⟩, hk⟩, hnew, _, _, hth⟩ hp h10
    refine hE h' tk e p hp h10 (fun b o q => hk b o (fun z => ?_) (fun z => ?_) (sub1 b o q)) ?_ hth
    · rw [z, hdn] at q; cases q
    · rw [z, hin] at q; cases q
    · cases q : s.heap.get? e with
      | none => rfl
      | some o => rw [sub1 e o q] at hnew; cases hnew
end
end Mine

namespace Mine
open PySem.SeqAt PySem.MeetsSeq PySem.Calls

abbrev xParams : Str := Str.ofString "params"
abbrev xFall : Str := Str.ofString "unhashable_fallback"

theorem binds_kw {s : Shared} {l : Addr} {b : Bool} : BindsTo s fdDed ⟨[.ref l], [(xFall, .bool b)]⟩ [(xParams, .ref l), (xFall, .bool b)] := BindsTo.of_eq (by rfl)
theorem binds_dflt {S : Heap} {s : Shared} {l : Addr} (G : Gnd S) (hS : Sub S s.heap) : BindsTo s fdDed ⟨[.ref l], []⟩ [(xParams, .ref l), (xFall, .bool false)] := by
  intro M A E Q hq
  obtain ⟨hs, t, n, hg⟩ := G.kwd
  have hn : s.heap.Ns 15 (fun y => nsFind #[⟨hs, .str xFall t, .bool false⟩] y) := ⟨_, _, _, hS _ _ hg, rfl, fun e he => by simp at he; subst he; exact ⟨_, _, rfl⟩, fun _ => rfl⟩
  have e : nsFind #[⟨hs, .str xFall t, .bool false⟩] xFall = some (.bool false) := by simp [nsFind, findBy, Value.isStr]
  show wpAny M A (((nsGet 15 xFall >>= _) >>= _) >>= _) Q E s
  refine wpAny_bind (wpAny_bind (wpAny_bind (wpAny_nsGet hn ?_)))
  rw [e]
  exact wpAny_pure (wpAny_pure (wpAny_pure hq))

theorem entry_unchain : entryFor table "proto.unchain" = some Builtin.«proto.unchain» := entryFor_of_tree (by kernel_rfl)
theorem plain_unchain : plainId "proto.unchain" = true := by decide +kernel

/-- a new exception under a handled one that has no context -/
theorem raise_held {prog : Program} {w : World} {α : Type} {A : Around} {E : Value → Shared → Prop} {s : Shared} {Q : α → Shared → Prop} {a e : Addr} {oe oa : Obj} {vs va : Array Value} (hh : A.handled = some (.ref e)) (he : s.heap.get? e = some oe) (hd : oe.data = .fields vs) (h2 : vs[2]? = some .none)
    (ha : s.heap.get? a = some oa) (hda : oa.data = .fields va) (hz : 2 < va.size) (hne : e ≠ a) (h : E (.ref a) { s with heap := s.heap.update a (Obj.mapFields (·.setIfInBounds 2 (.ref e))) }) : wpAny (model prog w) A (raiseNew (.ref a) : Sem α) Q E s := by
  unfold raiseNew
  refine wpAny_bind (wpAny_handled ?_)
  rw [hh]
  dsimp only
  have hb : ((Value.ref e != Value.ref a) = true) := by simp [bne_iff_ne, hne]
  rw [if_pos hb]
  refine wpAny_bind (wpAny_holding (wpAny_runValue (codeAny_builtin entry_unchain ?_)))
  unfold Builtin.«proto.unchain»
  refine wpAny_bind (wpAny_field he hd h2 ?_)
  rw [if_pos (show (Value.none == Value.none) = true from rfl)]
  refine wpAny_bind (wpAny_pure (wpAny_pure ?_))
  show wpAny _ _ (updateField a 2 (.ref e) >>= _) _ _ _
  unfold updateField
  refine wpAny_bind (wpAny_bind (wpAny_load ha ?_))
  rw [hda]
  dsimp only
  rw [if_pos hz]
  exact wpAny_update ha (wpAny_throw h)

theorem stop_held {prog : Program} {w : World} {A : Around} {S : Heap} {e : Addr} {oe : Obj} {vs : Array Value} (hh : A.handled = some (.ref e)) (he : S.get? e = some oe) (hd : oe.data = .fields vs) (h2 : vs[2]? = some .none) : StopOk prog w A S := by
  intro s it l i items Q E hS hit hl hx hQ
  obtain ⟨o, ho, hc, hdi⟩ := id hit
  obtain ⟨ol, hol, _, nl, hdl⟩ := hl
  have heit : e ≠ it := by
    rintro rfl
    rw [hS _ _ he] at ho; cases ho
    rw [hd] at hdi; cases hdi
    cases h2
  unfold pyNext
  refine wpAny_bind (wpAny_attempt (wpAny_callSpecial?_slot (name := Str.ofString "__next__") hit.typeIs slot_listiter_next
    (wpAny_call_entry slot_listiter_next hit.typeIs entry_listiter_next ?_ (args_listiter_next _))))
  show wpAny _ _ (field (.ref it) 0 >>= _) _ _ s
  refine wpAny_bind (wpAny_field ho hdi (x := .ref l) rfl ?_)
  show wpAny _ _ (if (Value.ref l == Value.none) = true then _ else _) _ _ s
  rw [if_neg (show ¬ ((Value.ref l == Value.none) = true) from Bool.false_ne_true)]
  show wpAny _ _ (field (.ref it) 1 >>= _) _ _ s
  refine wpAny_bind (wpAny_field ho hdi (x := .int i 0) rfl ?_)
  show wpAny _ _ (seqItems? (.ref l) >>= _) _ _ s
  refine wpAny_bind (wpAny_seqItems hol hdl ?_)
  simp only [Int.toNat_natCast, hx]
  refine wpAny_bind (wpAny_rule (wpAny_bind (wpAny_setField ho hdi (by simp) ?_)))
  show wpAny _ _ (newExc (.type "StopIteration") [] >>= _) _ _ _
  refine wpAny_bind ?_
  simp only [newExc, newTuple]
  refine wpAny_bind (wpAny_newObj_type ?_ (by size_fits))
  refine wpAny_bind (m := firstArgMember _ _) (wpAny_of_eq (a := Value.none) (by first | rfl | (simp only [firstArgMember]; rfl)) ?_)
  refine wpAny_newObj_type ?_ (by size_fits)
  have he' : s.heap.get? e = some oe := hS _ _ he
  have x := ((Heap.SameBut.update s.heap it (Obj.mapFields (·.setIfInBounds 0 Value.none))).extBut.push { cls := .type "tuple", data := .seq #[] }).push { cls := .type "StopIteration", data := .fields ([Value.ref (s.heap.update it (Obj.mapFields (·.setIfInBounds 0 Value.none))).objs.size, .none, .none, .none, .bool false] ++ [Value.none]).toArray }
  refine raise_held (oe := oe) (vs := vs) hh (x e _ heit he') hd h2 (Heap.get?_push_size _ rfl) rfl (by simp; omega) ?_ ?_
  · intro q
    have := Heap.lt_size ((((Heap.SameBut.update s.heap it (Obj.mapFields (·.setIfInBounds 0 Value.none))).extBut.push { cls := .type "tuple", data := .seq #[] })) e _ heit he')
    rw [← q] at this
    exact Nat.lt_irrefl _ this
  · refine wpAny_bind (wpAny_isInstance (T := "StopIteration") (b := true) ⟨_, Heap.get?_update_self _ (Heap.get?_push_size _ rfl) (Obj.isFreed_of_fields (Obj.data_mapFields rfl _)), (Obj.cls_mapFields ..).trans rfl⟩ isSubtype_stop ?_)
    refine wpAny_pure (hQ _ _ fun b o' hb q => ?_)
    rw [Heap.get?_update_other]
    · exact x b o' hb q
    · intro z
      have := Heap.lt_size ((((Heap.SameBut.update s.heap it (Obj.mapFields (·.setIfInBounds 0 Value.none))).extBut.push { cls := .type "tuple", data := .seq #[] })) b _ hb q)
      rw [← z] at this
      exact Nat.lt_irrefl _ this
end Mine

namespace Mine
open PySem.SeqAt PySem.MeetsSeq PySem.Calls

theorem FrmX.take {S₀ : Heap} {s₀ : Shared} {outer : List Env} {B S : Heap} {L : Addr} {s : Shared} {m : Str → Option Value} {a : Addr} {o : Obj} (X : FrmX S₀ s₀ outer B S L s m) (O : Own S₀ B S L a) (hn : a ∉ frs outer) (ho : s.heap.get? a = some o) :
    ∃ S', FrmX S₀ s₀ outer B S' L s m ∧ Sub S S' ∧ S'.get? a = some o := by
  obtain ⟨S', F', h1, h2, h3⟩ := X.F.take O ho
  exact ⟨S', X.step F' (fun _ _ _ e => e) fun b hb => by rw [h3 b (fun z => hn (z ▸ hb))]; exact X.off b hb, h1, h2⟩

theorem raise_bare {M : Model} {A : Around} {E : Value → Shared → Prop} {s : Shared} {env : Env} {pos : Pos} {e T : Addr} {cls : String} {fl : Value} {L : Addr} {Q : Flow → Shared → Prop} (hh : A.handled = some (.ref e)) (hf : env.frame = some L) (x : XAt s.heap e T cls fl)
    (h : ∀ h', Heap.SameBut T s.heap h' → XAt h' e T cls (rawInt L) → E (.ref e) { s with heap := h' }) : wpAny M A (exec (.Raise none none pos) env) Q E s := by
  rw [arm_exec_Raise]
  refine wpAny_bind (wpAny_standAt ?_)
  show wpAny _ _ (raiseStmt env none none) _ _ _
  unfold raiseStmt
  refine wpAny_bind (wpAny_handled ?_)
  rw [hh]
  dsimp only
  refine wpAny_bind (wpAny_rule ?_)
  obtain ⟨oe, vs, he, hc, hd, h1, h2⟩ := id x.exc
  refine wpAny_bind (wpAny_field he hd h1 ?_)
  rw [if_neg (show ¬ ((Value.ref T == Value.none) = true) from by simp), hf]
  exact wpAny_bind (set_flight x fun h' hs hx => wpAny_throw (h h' hs hx))

section
variable {prog : Program} {w : World} {A : Around} {E : Value → Shared → Prop} {s : Shared}

set_option maxHeartbeats 2000000 in
theorem ded_spec {S : Heap} {l : Addr} {vs : List Value} {ks : List Nat} {outer : List Env} {args : List Value} {kw : List (Str × Value)} {fb : Bool} {Q : Value → Shared → Prop} (G : Gnd S) (hS : Sub S s.heap)
    (hbind : BindsTo s fdDed ⟨args, kw⟩ [(xParams, .ref l), (xFall, .bool fb)]) (hl : S.PlainList l vs.toArray) (ht : Ths S vs ks)
    (hlen : vs.length ≤ 100) (hh : A.handled = none) (hA : A.frames = some outer) (ok : FrsOk s.heap outer) (hfs : ∀ b ∈ frs outer, S.get? b = none) (hdep : A.depth + 1 < recursionLimit) (hu : A.units + 40 < cLine)
    (hQ1 : (∀ p, p < ks.length → ks.getD p 0 < 10) → ∀ S' s' d n, ExtF (frs outer) S s S' s' → (∀ b ∈ frs outer, S'.get? b = none) → (d == sysModules) = false → S'.get? d = some (dO (entsAt w vs ks ks.length) n) → Q (.ref d) s')
    (hQ2 : ∀ p, p < ks.length → 10 ≤ ks.getD p 0 → fb = true → ∀ S' s' a, ExtF (frs outer) S s S' s' → (∀ b ∈ frs outer, S'.get? b = none) → S'.PlainList a (dedV vs ks).toArray → Q (.ref a) s')
    (hE : ∀ p, p < ks.length → 10 ≤ ks.getD p 0 → fb = false → ∀ s' e T, ExtF (frs outer) S s S s' → s.heap.get? e = none → s.heap.get? T = none → XAt s'.heap e T "TypeError" .none → E (.ref e) s') :
    wpAny (model prog w) A (call (.ref 22) args kw) Q E s := by
  refine call_fnX (fd := fdDed) (body := bodyOf 1) G hS rfl rfl (by omega) hbind (locs rfl) ok hfs ?_
  intro s₁ X
  have hfr : (A.deeper (callEnv fdDed s.heap.objs.size 22)).frames = some (callEnv fdDed s.heap.objs.size 22 :: outer) := Around.frames_deeper hA
  have hlk := ht.1
  refine wpAny_execs_cons ?_
  refine wpAny_Try_except ?_
  refine wpAny_execs_cons ?_
  refine wpAny_Return_some ?_
  refine MethodCall_ ?_
  refine ldB G X.F.sub (v := .type "dict") rfl ?_
  refine FK.getm ?_
  have X₂ := X.grow (h' := s₁.heap.push FK.bound) (fun _ _ e => Heap.get?_push_of_some _ e) (s₁.toks + 1)
  refine FK.callWith_bound ?_
  refine spliced_more (ldL X₂.F (v := .ref l) rfl (spliced_none ?_))
  refine ⟨Heap.get?_push_size _ rfl, ?_⟩
  refine fromkeys_call (Heap.get?_push_size _ rfl) X₂.F.sub hl.isList ht (by omega) hh (by show A.units + 3 + 20 < _; omega) (fun h10 h' tk d n hge hk hn hd => ?_) (fun h' tk e p hp h10 hk hn he => ?_)
  · have X₃ := X₂.grow hk tk
    obtain ⟨S', X₄, h1, h2⟩ := X₃.take (X₂.F.fresh hn) (X₂.not_frame hn) hd
    have hsys : (d == sysModules) = false := by
      have h78 := Heap.lt_size (X₂.F.sub _ _ (G.fn 78 fdRef rfl).1)
      have : sysModules < d := Nat.lt_of_lt_of_le (Nat.lt_trans (show (1 : Nat) < 78 by decide) h78) hge
      exact beq_false_of_ne (Nat.ne_of_gt this)
    exact hQ1 h10 S' _ d n X₄.ext X₄.off hsys h2
  · have X₃ := X₂.grow hk tk
    obtain ⟨oe, te, he, hce, hde⟩ := he
    have Oe := X₂.F.fresh hn
    have hnfe := X₂.not_frame hn
    have okE := X₃.frames (env := callEnv fdDed s.heap.objs.size 22) (show ScopeKind.function ≠ ScopeKind.module by decide) rfl
    refine note_new (L := s.heap.objs.size) hfr okE rfl he hde rfl rfl hce fun h₁₀ T k₁₀ hTn xa₁₀ => ?_
    have X₁₀ := X₃.fly rfl k₁₀ (fun b hb => by rw [List.mem_singleton.mp hb]; exact ⟨Oe, hnfe⟩)
    have OT := X₃.F.fresh hTn
    have hnT := X₃.not_frame hTn
    refine set_flight xa₁₀ fun h₁₂ hs₁₂ xa₁₂ => ?_
    have X₁₂ := X₁₀.upd OT hnT hs₁₂.extBut tk
    refine wpAny_handleBy_builtin (X := "TypeError") (T := "TypeError") (b := true) (isSubtype_of_subB (by decide +kernel)) (isSubtype_of_subB (by decide +kernel)) (isSubtype_of_subB (by decide +kernel)) ?_
    refine ldB G X₁₂.F.sub (v := .type "TypeError") rfl ⟨rfl, ?_, ?_⟩
    · obtain ⟨oe', vs', he', hc', _⟩ := xa₁₂.exc
      exact ⟨oe', he', hc'⟩
    · rw [if_pos rfl]
      refine set_flight xa₁₂ fun h₁₃ hs₁₃ xa₁₃ => ?_
      have X₁₃ := X₁₂.upd OT hnT hs₁₃.extBut tk
      refine wpAny_execs_cons ?_
      refine wpAny_If ?_
      refine wpAny_isTrue_Not ?_
      refine wpAny_isTrue_value ?_
      refine ldL X₁₃.F (v := .bool fb) rfl ?_
      refine wpAny_truthy_bool ?_
      cases fb with
      | false =>
        rw [if_pos (show (!false) = true from rfl)]
        refine wpAny_execs_cons ?_
        refine raise_bare rfl (L := s.heap.objs.size) rfl xa₁₃ fun h₁₄ hs₁₄ xa₁₄ => ?_
        have X₁₄ := X₁₃.upd OT hnT hs₁₄.extBut tk
        show wpAny _ _ (noteFrame _ _) _ _ _
        refine note_again (L := s.heap.objs.size) rfl xa₁₄ ?_
        refine came_back rfl xa₁₄ fun h₁₅ hs₁₅ xa₁₅ => ?_
        have X₁₅ := X₁₄.upd OT hnT hs₁₅.extBut tk
        show wpAny _ _ (leaving _ _) _ _ _
        unfold leaving
        refine wpAny_bind (note_again (L := s.heap.objs.size) rfl xa₁₅ ?_)
        refine set_flight xa₁₅ fun h₁₆ hs₁₆ xa₁₆ => ?_
        have X₁₆ := X₁₅.upd OT hnT hs₁₆.extBut tk
        have x := X₁₆.ext
        refine hE p hp h10 rfl _ e T ⟨x.st, x.keep, x.slots, fun _ _ e => e, fun c o e => x.sub c o (x.le c o e), fun _ _ _ => rfl⟩ ?_ ?_ xa₁₆
        · cases q : s.heap.get? e with
          | none => rfl
          | some o =>
            obtain ⟨sl, z⟩ := X₂.ext.slots e o q
            rw [hn] at z; cases z
        · cases q : s.heap.get? T with
          | none => rfl
          | some o =>
            obtain ⟨sl, z⟩ := X₃.ext.slots T o q
            rw [hTn] at z; cases z
      | true =>
        rw [if_neg (by decide)]
        refine wpAny_execs_nil ?_
        refine wpAny_execs_cons ?_
        refine wpAny_Return_some ?_
        obtain ⟨oe', vs', he', hc', hd', h1', h2'⟩ := id xa₁₃.exc
        obtain ⟨S', X₁₄, hle, hse⟩ := X₁₃.take Oe hnfe he'
        have G' := G.mono hle
        refine eval_call1 G' X₁₄.F.sub (a := 29) rfl rfl (ldL X₁₄.F (v := .ref l) rfl ⟨X₁₄.F.sub, ?_⟩)
        refine unh_spec G' X₁₄.F.sub (plain_sub hl hle) (ht.mono hle) (by omega) (fun _ => stop_held rfl hse hd' h2') (by show A.depth + 1 < _; omega) (by show A.units + 3 + 20 < _; omega) fun S₂ s₂ a x₂ hp₂ => ?_
        have X₁₅ := X₁₄.after x₂
        exact hQ2 p hp h10 rfl S₂ _ a X₁₅.ext X₁₅.off hp₂
end
end Mine

namespace Mine
open PySem.SeqAt PySem.MeetsSeq PySem.Calls

theorem frs_cons {env : Env} {outer : List Env} {L : Addr} (hf : env.frame = some L) {b : Addr} : b ∈ frs (env :: outer) ↔ b = L ∨ b ∈ frs outer := by
  rw [frs, List.filterMap_cons, hf]; exact List.mem_cons

/-- behind a call in which exceptions may have flown -/
theorem FrmX.afterF {S₀ : Heap} {s₀ : Shared} {outer : List Env} {B S : Heap} {L : Addr} {s : Shared} {m : Str → Option Value} {env : Env} {S' : Heap} {s' : Shared} (X : FrmX S₀ s₀ outer B S L s m) (hf : env.frame = some L) (x : ExtF (frs (env :: outer)) S s S' s') :
    FrmX S₀ s₀ outer B S' L s' m := by
  have nf : ∀ b, B.get? b ≠ none → b ∉ frs (env :: outer) := fun b hb q => by
    rcases (frs_cons hf).mp q with rfl | q
    · exact hb X.F.offB
    · exact hb (X.offB b q)
  obtain ⟨h, tk, e⟩ := X.F.st
  obtain ⟨h', tk', e'⟩ := x.st
  have hup : ∀ b o, b ∈ frs outer → s₀.heap.get? b = some o → ∃ sl, s'.heap.get? b = some { o with slots := sl } := fun b o hb q => by
    obtain ⟨sl, hs⟩ := X.up b o hb q
    obtain ⟨sl', hs'⟩ := x.slots b _ hs
    exact ⟨sl', hs'⟩
  refine ⟨⟨⟨h', tk', by rw [e', e]⟩, X.F.base, fun b o q => x.keep b o (nf b (by rw [q]; simp)) (X.F.keep b o q), fun b o q => x.le b o (X.F.le b o q), x.sub, fun b o q => (x.new b o (X.F.keep b o q)).trans (X.F.new b o q), ?_, X.F.offB, ?_⟩, hup, X.offB, fun b hb => ?_, X.ok, X.ne⟩
  · obtain ⟨o, es, n, ho, hd, r⟩ := X.F.ns
    obtain ⟨sl, hs⟩ := x.slots L o ho
    exact ⟨_, es, n, hs, hd, r⟩
  · obtain ⟨o, es, n, ho, hd, r⟩ := X.F.ns
    rw [x.new L o ho]; exact X.F.off
  · obtain ⟨env', he, hf'⟩ := List.mem_filterMap.mp hb
    obtain ⟨_, L', o, es, n, hf'', ho, _⟩ := X.here env' he
    rw [hf'] at hf''; cases hf''
    rw [x.new b o ho]; exact X.off b hb

abbrev xThings : Str := Str.ofString "things"

section
variable {prog : Program} {w : World} {A : Around} {E : Value → Shared → Prop} {s : Shared}

set_option maxHeartbeats 2000000 in
theorem refused_spec {S : Heap} {l : Addr} {vs : List Value} {ks : List Nat} {outer : List Env} {Q : Value → Shared → Prop} (G : Gnd S) (hS : Sub S s.heap) (hl : S.PlainList l vs.toArray) (ht : Ths S vs ks) {p : Nat} (hp : p < ks.length) (h10 : 10 ≤ ks.getD p 0)
    (hlen : vs.length ≤ 100) (hh : A.handled = none) (hA : A.frames = some outer) (ok : FrsOk s.heap outer) (hfs : ∀ b ∈ frs outer, S.get? b = none) (hdep : A.depth + 2 < recursionLimit) (hu : A.units + 50 < cLine)
    (h : ∀ s', ExtF (frs outer) S s S s' → Q (.bool true) s') : wpAny (model prog w) A (call (.ref 78) [.ref l]) Q E s := by
  refine call_fnX (fd := fdRef) (body := bodyOf 10) (binds := [(xThings, .ref l)]) G hS rfl rfl (by omega) (BindsTo.of_eq rfl) (locs rfl) ok hfs ?_
  intro s₁ X
  have hfr : (A.deeper (callEnv fdRef s.heap.objs.size 78)).frames = some (callEnv fdRef s.heap.objs.size 78 :: outer) := Around.frames_deeper hA
  have okE := X.frames (env := callEnv fdRef s.heap.objs.size 78) (show ScopeKind.function ≠ ScopeKind.module by decide) rfl
  refine wpAny_execs_cons ?_
  refine wpAny_Try_except ?_
  refine wpAny_execs_cons ?_
  refine wpAny_Expr_any ?_
  refine eval_call1 G X.F.sub (a := 22) rfl rfl (ldL X.F (v := .ref l) rfl ⟨X.F.sub, ?_⟩)
  refine ded_spec G X.F.sub (binds_dflt G X.F.sub) hl ht hlen hh hfr okE (fun b hb => ?_) (by show A.depth + 1 + 1 < _; omega) (by show A.units + 3 + 40 < _; omega) (fun q => ?_) (fun _ _ _ q => by cases q) (fun p' hp' h10' _ s₂ e T x₂ he hT xa => ?_)
  · rcases (frs_cons (env := callEnv fdRef s.heap.objs.size 78) (L := s.heap.objs.size) rfl).mp hb with rfl | hb
    · exact X.F.off
    · exact X.off b hb
  · exact absurd (q p hp) (by omega)
  · have X₂ := X.afterF (env := callEnv fdRef s.heap.objs.size 78) rfl x₂
    have ok₂ := X₂.frames (env := callEnv fdRef s.heap.objs.size 78) (show ScopeKind.function ≠ ScopeKind.module by decide) rfl
    have Oe := X.F.fresh he
    have OT := X.F.fresh hT
    have ne := X.not_frame he
    have nT := X.not_frame hT
    refine note_next (L := s.heap.objs.size) hfr ok₂ rfl xa fun h₃ T' k₃ hTn xa₃ => ?_
    have X₃ := X₂.fly (env := callEnv fdRef s.heap.objs.size 78) rfl k₃ (fun b hb => by
      simp only [List.mem_cons, List.mem_nil_iff, or_false] at hb
      rcases hb with rfl | rfl
      · exact ⟨Oe, ne⟩
      · exact ⟨OT, nT⟩)
    have OT' := X₂.F.fresh hTn
    have nT' := X₂.not_frame hTn
    refine set_flight xa₃ fun h₄ hs₄ xa₄ => ?_
    have X₄ := X₃.upd OT' nT' hs₄.extBut s₂.toks
    refine wpAny_handleBy_builtin (X := "TypeError") (T := "TypeError") (b := true) (isSubtype_of_subB (by decide +kernel)) (isSubtype_of_subB (by decide +kernel)) (isSubtype_of_subB (by decide +kernel)) ?_
    refine ldB G X₄.F.sub (v := .type "TypeError") rfl ⟨rfl, ?_, ?_⟩
    · obtain ⟨oe', vs', he', hc', _⟩ := xa₄.exc
      exact ⟨oe', he', hc'⟩
    · rw [if_pos rfl]
      refine set_flight xa₄ fun h₅ hs₅ xa₅ => ?_
      have X₅ := X₄.upd OT' nT' hs₅.extBut s₂.toks
      refine wpAny_execs_cons (wpAny_Return_some (wpAny_Constant_bool ?_))
      exact h _ X₅.ext
end
end Mine

namespace Mine
open PySem.SeqAt PySem.MeetsSeq PySem.Calls

section
variable {prog : Program} {w : World} {A : Around} {E : Value → Shared → Prop} {s : Shared} {env : Env}

theorem comp_core {S : Heap} {l : Addr} {items : List Value} {P : Nat → Value → Heap → Prop} {elt iter : Expr} {x : Str} {px : Pos} {scope : Scope} {cl : List (Str × Addr)} {pos : Pos} {RR : Value → Addr → Result → Shared → Prop}
    (hh : A.handled = none) (hS : Sub S s.heap) (hl : S.IsList l items.toArray) (hlen : items.length ≤ 1000)
    (hcell : ∀ y ∈ scope.names, y.2 ≠ .cell) (hkind : scope.kind = .function) (hx : scope.names.lookup x = some .local)
    (hP : ∀ j y S₁ S₂, P j y S₁ → Sub S₁ S₂ → P j y S₂)
    (turn : ∀ C i v S₁ s₁ m₁ E', items[i]? = some v → Sub S S₁ → Frm S s s.heap S₁ C s₁ m₁ → m₁ x = some v → wpAny (model prog w) A (eval elt (compEnvC scope cl C env)) (fun y s₂ => ∃ S₂, Ext S₁ s₁ S₂ s₂ ∧ P i y S₂) E' s₁)
    (hRR : ∀ D C S₁ s₁ m₁ (ys : List Value), Sub S S₁ → Frm S s s.heap S₁ C s₁ m₁ → Own S s.heap S₁ C D → s₁.heap.PlainList D ys.toArray → ys.length = items.length → (∀ j y, ys[j]? = some y → P j y S₁) → RR (.ref D) C (.ok .next) s₁) :
    wpAny (model prog w) A (pyIter (.ref l)) (fun it s₂ => wpAny (model prog w) A (newList []) (fun acc s₃ => wpAny (model prog w) A (newFunctionEnv scope env.globals cl [] env.qual none .none (some env)) (fun cenv s₄ =>
      codeAny (model prog w) A (.compStart (.ListComp elt [⟨.Name x px, iter, [], 0⟩] scope pos) 0 it acc { cenv with scope := relabel scope env }) (RR acc cenv.locals) s₄) E s₃) E s₂) E s := by
  have hlS := isList_sub hl hS
  refine wpAny_pyIter_list hlS ?_
  refine wpAny_newObj_type (wpAny_newFunctionEnv hcell (by intro y hy; simp at hy) (fun h₁ hns₁ hsb₁ => ?_) hkind)
  dsimp only at hns₁ hsb₁ ⊢
  generalize hH1 : s.heap.push { cls := .type "list_iterator", data := .fields #[.ref l, .int 0 0] } = H1 at hns₁ hsb₁ ⊢
  generalize hH2 : H1.push { cls := .type "list", dict := none, data := .seq ([] : List Value).toArray } = H2 at hns₁ hsb₁ ⊢
  have z1 : H1.objs.size = s.heap.objs.size + 1 := by rw [← hH1, Heap.size_push]
  have z2 : H2.objs.size = s.heap.objs.size + 1 + 1 := by rw [← hH2, Heap.size_push, z1]
  have hI : s.heap.get? s.heap.objs.size = none := push_none _
  have hD : s.heap.get? H1.objs.size = none := get?_none_of_size (fun _ _ e => e) (by rw [z1]; exact Nat.le_succ _)
  have hC : s.heap.get? H2.objs.size = none := get?_none_of_size (fun _ _ e => e) (by rw [z2]; exact Nat.le_trans (Nat.le_succ _) (Nat.le_succ _))
  have IC : s.heap.objs.size ≠ H2.objs.size := by rw [z2]; exact Nat.ne_of_lt (Nat.lt_trans (Nat.lt_succ_self _) (Nat.lt_succ_self _))
  have ID : s.heap.objs.size ≠ H1.objs.size := by rw [z1]; exact Nat.ne_of_lt (Nat.lt_succ_self _)
  have DC : H1.objs.size ≠ H2.objs.size := by rw [z1, z2]; exact Nat.ne_of_lt (Nat.lt_succ_self _)
  have up : ∀ b o, b ≠ H2.objs.size → H2.get? b = some o → h₁.get? b = some o := fun b o hb e => hsb₁.extBut b o hb (Heap.get?_push_of_some _ e)
  have old : Sub s.heap h₁ := fun b o e => up b o (by rintro rfl; rw [hC] at e; cases e) (hH2 ▸ Heap.get?_push_of_some _ (hH1 ▸ Heap.get?_push_of_some _ e))
  have Sn : ∀ {b}, s.heap.get? b = none → S.get? b = none := fun {b} hb => by
    cases e : S.get? b with
    | none => rfl
    | some o => rw [hS b o e] at hb; cases hb
  have F₀ : Frm S s s.heap S H2.objs.size { s with heap := h₁, toks := s.toks + ([] : List (Str × Value)).length } (fun x => ([] : List (Str × Value)).reverse.lookup x) :=
    ⟨⟨h₁, _, rfl⟩, fun _ _ e => e, old, fun _ _ e => e, fun b o e => old b o (hS b o e), fun _ _ _ => rfl, hns₁, hC, Sn hC⟩
  have OI : Own S s.heap S H2.objs.size s.heap.objs.size := ⟨hI, Sn hI, Sn hI, IC⟩
  have OD : Own S s.heap S H2.objs.size H1.objs.size := ⟨hD, Sn hD, Sn hD, DC⟩
  have it₀ : h₁.IsListIter s.heap.objs.size l 0 := ⟨_, up _ _ IC (hH2 ▸ Heap.get?_push_of_some _ (hH1 ▸ Heap.get?_push_size _ rfl)), rfl, rfl⟩
  have acc₀ : h₁.PlainList H1.objs.size #[] := ⟨_, up _ _ DC (hH2 ▸ Heap.get?_push_size _ rfl)⟩
  have loop : ∀ s₃ : Shared, s₃ = { s with heap := h₁, toks := s.toks + ([] : List (Str × Value)).length } →
      codeAny (model prog w) A (.compLoop (.ListComp elt [⟨.Name x px, iter, [], 0⟩] scope pos) 0 (.ref s.heap.objs.size) (.ref H1.objs.size) (compEnvC scope cl H2.objs.size env)) (RR (.ref H1.objs.size) H2.objs.size) s₃ := by
    rintro s₃ rfl
    generalize hc : H2.objs.size = C at *
    generalize hd : H1.objs.size = D at *
    generalize hi : s.heap.objs.size = I at *
    refine codeAny_compLoop_tests (fun k s₁ => ∃ (S₁ : Heap) (m₁ : Str → Option Value) (ys : List Value) (i : Nat), k = items.length + 1 - i ∧ i ≤ items.length ∧ ys.length = i ∧ Sub S S₁ ∧ Frm S s s.heap S₁ C s₁ m₁ ∧ Own S s.heap S₁ C I ∧ Own S s.heap S₁ C D ∧ s₁.heap.IsListIter I l i ∧ s₁.heap.PlainList D ys.toArray ∧ ∀ j y, ys[j]? = some y → P j y S₁) ?_ (items.length + 1)
      ⟨S, _, [], 0, rfl, Nat.zero_le _, rfl, fun _ _ e => e, F₀, OI, OD, it₀, acc₀, fun j y e => by simp at e⟩
    rintro k s₁ ⟨S₁, m₁, ys, i, rfl, hi', hy, hSS, F, oI, oD, hit, hacc, hPs⟩
    have hl₁ : s₁.heap.IsList l items.toArray := isList_sub hl fun b o e => F.sub b o (hSS b o e)
    cases hv : items[i]? with
    | none =>
      have hge : items.length ≤ i := by simpa using hv
      refine wpAny_pyNext_list_end hh hit hl₁ (by simpa using hv) fun h₂ he₂ => ?_
      exact hRR D C S₁ _ m₁ ys hSS (F.upd oI he₂ s₁.toks) oD (hacc.extBut he₂ (Ne.symm ID)) (by omega) hPs
    | some v =>
      have hlt : i < items.length := by
        rcases Nat.lt_or_ge i items.length with q | q
        · exact q
        · rw [List.getElem?_eq_none q] at hv; cases hv
      refine wpAny_pyNext_list_item hit hl₁ (by simpa using hv) fun h₂ hit₂ hs₂ => ?_
      have F₂ := F.upd oI hs₂.extBut s₁.toks
      refine wpAny_assign_Name (stL F₂ (fun h₃ F₃ hk₃ => ?_) (by simp [compEnvC, relabel, hkind]) (lookup_relabel_local hx) rfl)
      refine wpAny_tests_nil ?_
      rw [if_pos rfl]
      refine wpAny_mono (turn C i v S₁ _ _ _ hv hSS F₃ (upd_same _ _ _)) (fun y s₄ h₄ => ?_) fun _ _ e => e
      obtain ⟨S₂, x₂, hPy⟩ := h₄
      have F₄ := F₃.after x₂
      have nI : ∃ o, h₃.get? I = some o := by obtain ⟨o, ho, _⟩ := hit₂; exact ⟨o, (hk₃ I oI.ne).trans ho⟩
      have nD : ∃ o, h₃.get? D = some o := by obtain ⟨n, ho⟩ := hacc; exact ⟨_, (hk₃ D oD.ne).trans (hs₂.extBut D _ (Ne.symm ID) ho)⟩
      obtain ⟨oo, hoo⟩ := nI
      obtain ⟨od, hod⟩ := nD
      have oI₄ := oI.after x₂ hoo
      have oD₄ := oD.after x₂ hod
      have hacc₄ : s₄.heap.PlainList D ys.toArray := hacc.at fun o e => x₂.keep D o ((hk₃ D oD.ne).trans (hs₂.extBut D o (Ne.symm ID) e))
      have hit₄ : s₄.heap.IsListIter I l (i + 1) := hit₂.at fun o e => x₂.keep I o ((hk₃ I oI.ne).trans e)
      refine wpAny_list_append_plain (hsz := by simp only [List.size_toArray]; unfold sizeLine; omega) hacc₄ fun h₅ hl₅ hs₅ => ?_
      refine ⟨items.length + 1 - (i + 1), by omega, S₂, _, ys ++ [y], i + 1, rfl, hlt, by simp [hy], fun b o e => x₂.le b o (hSS b o e), F₄.upd oD₄ hs₅.extBut s₄.toks, oI₄, oD₄, hit₄.extBut hs₅.extBut ID, by simpa using hl₅, fun j y' hj => ?_⟩
      by_cases hj' : j < ys.length
      · rw [List.getElem?_append_left hj'] at hj
        exact hP j y' S₁ S₂ (hPs j y' hj) x₂.le
      · rw [List.getElem?_append_right (by omega)] at hj
        have e0 : j - ys.length = 0 := by
          rcases Nat.eq_zero_or_pos (j - ys.length) with q | q
          · exact q
          · rw [List.getElem?_eq_none (by simp; omega)] at hj; cases hj
        rw [e0] at hj
        simp at hj
        rw [show j = i by omega, ← hj]
        exact hPy
  exact codeAny_compStart_list (loop _ rfl) (wpAny_pyIter_listiter it₀ (loop _ rfl))
end
end Mine

namespace Mine
open PySem.SeqAt PySem.MeetsSeq PySem.Calls

theorem Ext.take {S S₁ : Heap} {s s₁ : Shared} {a : Addr} {o : Obj} (x : Ext S s S₁ s₁) (h0 : s.heap.get? a = none) (ho : s₁.heap.get? a = some o) (hn : S₁.get? a = none) :
    ∃ S', Ext S s S' s₁ ∧ Sub S₁ S' ∧ S'.get? a = some o ∧ ∀ b, b ≠ a → S'.get? b = S₁.get? b := by
  have hne : ∀ b o', S₁.get? b = some o' → b ≠ a := fun b o' e q => by rw [q, hn] at e; cases e
  have hg : ∀ b, (pick s₁.heap fun b => (S₁.get? b).isSome || b == a).get? b = if b = a then some o else S₁.get? b := fun b => by
    rw [pick_get]
    by_cases hb : b = a
    · subst hb; simp [ho]
    · simp only [hb, if_false]
      cases e : S₁.get? b with
      | none => simp [e, hb]
      | some o' => simp [e, x.sub b o' e]
  have le : Sub S₁ (pick s₁.heap fun b => (S₁.get? b).isSome || b == a) := fun b o' e => by rw [hg, if_neg (hne b o' e)]; exact e
  refine ⟨pick s₁.heap fun b => (S₁.get? b).isSome || b == a, ⟨x.st, x.keep, fun b o' e => le b o' (x.le b o' e), fun b o' e => ?_, fun b o' e => ?_⟩, le, by rw [hg, if_pos rfl], fun b hb => by rw [hg, if_neg hb]⟩
  · rw [pick_get] at e; split at e
    · exact e
    · cases e
  · rw [hg, if_neg]
    · exact x.new b o' e
    · rintro rfl; rw [h0] at e; cases e

section
variable {prog : Program} {w : World} {A : Around} {E : Value → Shared → Prop} {s : Shared} {env : Env}

theorem comp_none {S : Heap} {l : Addr} {items : List Value} {elt iter : Expr} {x : Str} {px : Pos} {scope : Scope} {cl : List (Str × Addr)} {pos : Pos} {Q : Value → Shared → Prop} (P : Nat → Value → Heap → Prop)
    (hh : A.handled = none) (hS : Sub S s.heap) (hl : S.IsList l items.toArray) (hlen : items.length ≤ 1000)
    (hP : ∀ j y S₁ S₂, P j y S₁ → Sub S₁ S₂ → P j y S₂)
    (turn : ∀ C i v S₁ s₁ m₁ E', items[i]? = some v → Sub S S₁ → Frm S s s.heap S₁ C s₁ m₁ → m₁ x = some v → wpAny (model prog w) A (eval elt (compEnvC scope cl C env)) (fun y s₂ => ∃ S₂, Ext S₁ s₁ S₂ s₂ ∧ P i y S₂) E' s₁)
    (hQ : ∀ D S' s' (ys : List Value), Ext S s S' s' → S'.PlainList D ys.toArray → ys.length = items.length → (∀ j y, ys[j]? = some y → P j y S') → Q (.ref D) s')
    (hcell : ∀ y ∈ scope.names, y.2 ≠ .cell := by decide) (hkind : scope.kind = .function := by rfl) (hx : scope.names.lookup x = some .local := by rfl) :
    wpAny (model prog w) A (pyIter (.ref l)) (fun it s₂ => wpAny (model prog w) A (newList []) (fun acc s₃ => wpAny (model prog w) A (newFunctionEnv scope env.globals cl [] env.qual none .none (some env)) (fun cenv s₄ =>
      codeAny (model prog w) A (.compStart (.ListComp elt [⟨.Name x px, iter, [], 0⟩] scope pos) 0 it acc { cenv with scope := relabel scope env }) (compPost (model prog w) A E none Q acc cenv.locals) s₄) E s₃) E s₂) E s := by
  refine comp_core (RR := fun acc C => compPost (model prog w) A E none Q acc C) hh hS hl hlen hcell hkind hx hP turn fun D C S₁ s₁ m₁ ys hSS F O hD hy hPs => ?_
  refine ⟨m₁, F.ns, fun h' hs' => ?_⟩
  have x₁ : Ext S s S₁ { s₁ with heap := h' } := by
    obtain ⟨h, tk, rfl⟩ := F.st
    refine ⟨⟨h', tk, rfl⟩, fun b o e => hs'.extBut b o ?_ (F.keep b o e), F.le, fun b o e => hs'.extBut b o ?_ (F.sub b o e), fun b o e => F.new b o e⟩
    · rintro rfl; rw [F.offB] at e; cases e
    · rintro rfl; rw [F.off] at e; cases e
  obtain ⟨n, hd⟩ := hD
  obtain ⟨S', x', h1, h2, _⟩ := x₁.take O.offB (hs'.extBut D _ O.ne hd) O.off
  exact hQ D S' _ ys x' ⟨n, h2⟩ hy fun j y e => hP j y S₁ S' (hPs j y e) h1

theorem comp_use {S₀ : Heap} {s₀ : Shared} {B S : Heap} {L : Addr} {m : Str → Option Value} {l : Addr} {items : List Value} {elt iter : Expr} {x z : Str} {px pz : Pos} {scope : Scope} {cl : List (Str × Addr)} {pos : Pos} {Q : Value → Shared → Prop} (F₀ : Frm S₀ s₀ B S L s m) (P : Nat → Value → Heap → Prop)
    (hh : A.handled = none) (hl : S.IsList l items.toArray) (hlen : items.length ≤ 1000)
    (hP : ∀ j y S₁ S₂, P j y S₁ → Sub S₁ S₂ → P j y S₂)
    (turn : ∀ C i v S₁ s₁ m₁ E', items[i]? = some v → Sub S S₁ → Frm S s s.heap S₁ C s₁ m₁ → m₁ x = some v → wpAny (model prog w) A (eval elt (compEnvC scope cl C env)) (fun y s₂ => ∃ S₂, Ext S₁ s₁ S₂ s₂ ∧ P i y S₂) E' s₁)
    (hQ : ∀ D S' s' (ys : List Value), Frm S₀ s₀ B S' L s' (upd m z (.ref D)) → Sub S S' → S'.PlainList D ys.toArray → ys.length = items.length → (∀ j y, ys[j]? = some y → P j y S') → Q .none s')
    (hcell : ∀ y ∈ scope.names, y.2 ≠ .cell := by decide) (hkind : scope.kind = .function := by rfl) (hx : scope.names.lookup x = some .local := by rfl)
    (hk : env.scope.kind = .function := by rfl) (hz : env.kindOf z = some .local := by rfl) (hL : env.locals = L := by rfl) :
    wpAny (model prog w) A (pyIter (.ref l)) (fun it s₂ => wpAny (model prog w) A (newList []) (fun acc s₃ => wpAny (model prog w) A (newFunctionEnv scope env.globals cl [] env.qual none .none (some env)) (fun cenv s₄ =>
      codeAny (model prog w) A (.compStart (.ListComp elt [⟨.Name x px, iter, [], 0⟩] scope pos) 0 it acc { cenv with scope := relabel scope env }) (compPost (model prog w) A E (some (assign (.Name z pz) env)) Q acc cenv.locals) s₄) E s₃) E s₂) E s := by
  refine comp_core (RR := fun acc C => compPost (model prog w) A E (some (assign (.Name z pz) env)) Q acc C) hh F₀.sub hl hlen hcell hkind hx hP turn fun D C S₁ s₁ m₁ ys hSS F O hD hy hPs => ?_
  obtain ⟨n, hd⟩ := hD
  obtain ⟨S', F', h1, h2, h3⟩ := F.take O hd
  have x₁ := F'.ext
  have F₁ := F₀.after x₁
  have hC : Own S₀ B S' L C := by
    have hCn : s.heap.get? C = none := F.offB
    have := F₀.fresh hCn
    exact ⟨this.offB, (h3 C (Ne.symm O.ne)).trans F.off, this.off0, this.ne⟩
  show wpAny _ A (assign (.Name z pz) env (.ref D)) _ _ _
  refine wpAny_assign_Name (stL F₁ (fun h₂ F₂ hk₂ => ?_) hk hz hL)
  obtain ⟨oC, esC, nC, hoC, hdC, rC⟩ := F.ns
  refine ⟨m₁, ⟨oC, esC, nC, (hk₂ C hC.ne).trans hoC, hdC, rC⟩, fun h₃ hs₃ => ?_⟩
  exact hQ D S' _ ys (F₂.upd hC hs₃.extBut _) (fun b o e => h1 b o (hSS b o e)) ⟨n, h2⟩ hy fun j y e => hP j y S₁ S' (hPs j y e) h1
end

section
variable {prog : Program} {w : World} {A : Around} {R : Result → Shared → Prop}

/-- a for loop, by an invariant; the iterator's objects are W, the frame's own ones fp -/
theorem for_gen2 {S₀ : Heap} {s₀ : Shared} {B S : Heap} {L : Addr} {s : Shared} {m : Str → Option Value} {env : Env} {target : Expr} {it : Value} {body : List Stmt} (F : Frm S₀ s₀ B S L s m)
    (W fp : List Addr) (n : Nat) (St : Nat → Heap → Prop) (Fin : Heap → Prop) (Vars : Nat → (Str → Option Value) → (Str → Option Value) → Prop) (J : Nat → Heap → Heap → (Str → Option Value) → Prop)
    (hst : St 0 s.heap) (hW : ∀ b ∈ W, Own S₀ B S L b) (hWex : ∀ i h, St i h → ∀ b ∈ W, ∃ o, h.get? b = some o)
    (hframe : ∀ i h h', St i h → (∀ b ∈ W, ∀ o, h.get? b = some o → h'.get? b = some o) → Sub S h' → St i h')
    (item : ∀ i S₁ s₁ m₁ (Q : Unit → Shared → Prop) (E : Value → Shared → Prop), i < n → Sub S S₁ → Frm S₀ s₀ B S₁ L s₁ m₁ → (∀ b ∈ W, Own S₀ B S₁ L b) → St i s₁.heap →
      (∀ s₂ m₂, Frm S₀ s₀ B S₁ L s₂ m₂ → Vars i m₁ m₂ → St (i + 1) s₂.heap → (∀ b o, b ∉ W → b ≠ L → s₁.heap.get? b = some o → s₂.heap.get? b = some o) → Q () s₂) →
      wpAny (model prog w) A (pyNext it) (fun r s₂ => match r with | none => False | some v => wpAny (model prog w) A (letOwnedTupleGo target it v) (fun _ s₃ => wpAny (model prog w) A (assign target env v) Q E s₃) E s₂) E s₁)
    (done : ∀ S₁ s₁ m₁ (Q : Option Value → Shared → Prop) (E : Value → Shared → Prop), Sub S S₁ → Frm S₀ s₀ B S₁ L s₁ m₁ → (∀ b ∈ W, Own S₀ B S₁ L b) → St n s₁.heap →
      (∀ s₂, Frm S₀ s₀ B S₁ L s₂ m₁ → Fin s₂.heap → (∀ b o, b ∉ W → s₁.heap.get? b = some o → s₂.heap.get? b = some o) → Q none s₂) → wpAny (model prog w) A (pyNext it) Q E s₁)
    (hJ : J 0 S s.heap m) (hJf : ∀ i S h h' m, J i S h m → (∀ b ∈ fp, ∀ o, h.get? b = some o → h'.get? b = some o) → J i S h' m)
    (hfp : ∀ a ∈ fp, Own S₀ B S L a ∧ a ∉ W)
    (turn : ∀ i B₁ S₁ s₁ m₁ m₂, i < n → Sub S S₁ → Sub B B₁ → (∀ b, b ∉ W → B₁.get? b = B.get? b) → (∀ b ∈ W, B₁.get? b = s₁.heap.get? b) → St (i + 1) s₁.heap → Frm S₀ s₀ B₁ S₁ L s₁ m₂ → Vars i m₁ m₂ → J i S₁ s₁.heap m₁ → (∀ a ∈ fp, Own S₀ B₁ S₁ L a) →
      wpAny (model prog w) A (execs body env) (fun f s₂ => match f with
        | .next | .cont => ∃ S₂ m₃, Sub S₁ S₂ ∧ Frm S₀ s₀ B₁ S₂ L s₂ m₃ ∧ J (i + 1) S₂ s₂.heap m₃ ∧ ∀ a ∈ fp, Own S₀ B₁ S₂ L a
        | .brk => R (.ok .next) s₂
        | .ret v => R (.ok (.ret v)) s₂) (notedBy (model prog w) A env fun e s' => R (.error e) s') s₁)
    (fin : ∀ S₁ s₁ m₁, Sub S S₁ → Frm S₀ s₀ B S₁ L s₁ m₁ → Fin s₁.heap → (∀ b ∈ W, Own S₀ B S₁ L b) → J n S₁ s₁.heap m₁ → (∀ a ∈ fp, Own S₀ B S₁ L a) → R (.ok .next) s₁) :
    codeAny (model prog w) A (.forLoop target it body [] env) R s := by
  let Inv : Nat → Shared → Prop := fun k s' => ∃ i S₁ m₁, i ≤ n ∧ k = n + 1 - i ∧ Sub S S₁ ∧ Frm S₀ s₀ B S₁ L s' m₁ ∧ (∀ b ∈ W, Own S₀ B S₁ L b) ∧ St i s'.heap ∧ J i S₁ s'.heap m₁ ∧ ∀ a ∈ fp, Own S₀ B S₁ L a
  refine codeAny_forLoop_any Inv ?_ (n + 1)
    ⟨0, S, m, Nat.zero_le _, rfl, fun _ _ e => e, F, hW, hst, hJ, fun a ha => (hfp a ha).1⟩
  rintro k s₁ ⟨i, S₁, m₁, hi, rfl, hSS, F₁, hW₁, hst₁, hJ₁, hfp₁⟩
  by_cases hlt : i < n
  · refine wpAny_mono (item i S₁ s₁ m₁ (fun _ s₂ => wpAny (model prog w) A (execs body env) (fun f s₃ => match f with
          | .next | .cont => ∃ m, m < n + 1 - i ∧ Inv m s₃
          | .brk => R (.ok .next) s₃
          | .ret v => R (.ok (.ret v)) s₃) (notedBy (model prog w) A env fun e s' => R (.error e) s') s₂) _ hlt hSS F₁ hW₁ hst₁ (fun s₂ m₂ F₂ hV hst₂ hk₂ => ?_)) (fun r s₂ h => ?_) fun _ _ e => e
    rotate_left
    · cases r with
      | none => exact h.elim
      | some v => exact h
    · obtain ⟨B₁, F₃, hBB, hBW, hBo⟩ := F₂.holdAll W hW₁
      have hJ₂ : J i S₁ s₂.heap m₁ := hJf i S₁ s₁.heap s₂.heap m₁ hJ₁ fun b hb o e => hk₂ b o (hfp b hb).2 (hfp₁ b hb).ne e
      refine wpAny_mono (turn i B₁ S₁ s₂ m₁ m₂ hlt hSS hBB hBo hBW hst₂ F₃ hV hJ₂ fun a ha => ⟨(hBo a (hfp a ha).2).trans (hfp₁ a ha).offB, (hfp₁ a ha).off, (hfp₁ a ha).off0, (hfp₁ a ha).ne⟩) (fun f s₃ h => ?_) fun _ _ e => e
      have key : (∃ S₂ m₃, Sub S₁ S₂ ∧ Frm S₀ s₀ B₁ S₂ L s₃ m₃ ∧ J (i + 1) S₂ s₃.heap m₃ ∧ ∀ a ∈ fp, Own S₀ B₁ S₂ L a) → ∃ mm, mm < n + 1 - i ∧ Inv mm s₃ := by
        rintro ⟨S₂, m₃, hs, F₄, hJ₄, hO₄⟩
        have hkW : ∀ b ∈ W, ∀ o, s₂.heap.get? b = some o → s₃.heap.get? b = some o := fun b hb o e => F₄.keep b o ((hBW b hb).trans e)
        refine ⟨n + 1 - (i + 1), by omega, i + 1, S₂, m₃, hlt, rfl, fun b o e => hs b o (hSS b o e), F₄.unhold F₁.base hBB, fun b hb => ?_, ?_, hJ₄, fun a ha => (hO₄ a ha).mono_B hBB⟩
        · obtain ⟨o, ho⟩ := hWex (i + 1) s₂.heap hst₂ b hb
          exact ⟨(hW₁ b hb).offB, (F₄.new b o ((hBW b hb).trans ho)).trans (hW₁ b hb).off0, (hW₁ b hb).off0, (hW₁ b hb).ne⟩
        · exact hframe (i + 1) s₂.heap s₃.heap hst₂ hkW fun b o e => F₄.sub b o (hs b o (hSS b o e))
      cases f with
      | next => exact key h
      | cont => exact key h
      | brk => exact h
      | ret v => exact h
  · have hin : i = n := by omega
    subst hin
    refine done S₁ s₁ m₁ _ _ hSS F₁ hW₁ hst₁ fun s₂ F₂ hfin hk₂ => ?_
    exact wpAny_execs_nil (fin S₁ s₂ m₁ hSS F₂ hfin hW₁ (hJf i S₁ s₁.heap s₂.heap m₁ hJ₁ fun b hb o e => hk₂ b o (hfp b hb).2 e) hfp₁)
end
end Mine

namespace Mine
open PySem.SeqAt PySem.MeetsSeq PySem.Calls

theorem Frm.afterF {S₀ : Heap} {s₀ : Shared} {B S : Heap} {L : Addr} {s : Shared} {m : Str → Option Value} {S' : Heap} {s' : Shared} (F : Frm S₀ s₀ B S L s m) (x : ExtF [L] S s S' s') : Frm S₀ s₀ B S' L s' m := by
  obtain ⟨h, tk, e⟩ := F.st
  obtain ⟨h', tk', e'⟩ := x.st
  refine ⟨⟨h', tk', by rw [e', e]⟩, F.base, fun b o q => x.keep b o (fun z => ?_) (F.keep b o q), fun b o q => x.le b o (F.le b o q), x.sub, fun b o q => (x.new b o (F.keep b o q)).trans (F.new b o q), ?_, F.offB, ?_⟩
  · rw [List.mem_singleton.mp z, F.offB] at q; cases q
  · obtain ⟨o, es, n, ho, hd, r⟩ := F.ns
    obtain ⟨sl, hs⟩ := x.slots L o ho
    exact ⟨_, es, n, hs, hd, r⟩
  · obtain ⟨o, es, n, ho, hd, r⟩ := F.ns
    rw [x.new L o ho]; exact F.off

/-- an object held in B' and let go -/
theorem Frm.let_go {S₀ : Heap} {s₀ : Shared} {B B' S : Heap} {L : Addr} {s : Shared} {m : Str → Option Value} {a : Addr} {o : Obj} (F : Frm S₀ s₀ B' S L s m) (ho : B'.get? a = some o) (h0 : S₀.get? a = none) (hB : B.get? a = none) (hL : a ≠ L) : Own S₀ B S L a :=
  ⟨hB, (F.new a o ho).trans h0, h0, hL⟩

section
variable {prog : Program} {w : World} {A : Around} {E : Value → Shared → Prop} {R : Result → Shared → Prop}

theorem for_list_cell {S₀ : Heap} {s₀ : Shared} {B S : Heap} {L : Addr} {s : Shared} {m : Str → Option Value} {env : Env} {x : Str} {px : Pos} {body : List Stmt} {l c : Addr} {v₀ : Option Value} {items : Array Value} (F : Frm S₀ s₀ B S L s m)
    (hh : A.handled = none) (hl : S.IsList l items) (Oc : Own S₀ B S L c) (hcv : s.heap.IsCell c v₀) (fp : List Addr) (J : Nat → Heap → Heap → (Str → Option Value) → Prop)
    (hJ : J 0 S s.heap m) (hJf : ∀ i S h h' m, J i S h m → (∀ b ∈ fp, ∀ o, h.get? b = some o → h'.get? b = some o) → J i S h' m)
    (hfp : ∀ a ∈ fp, Own S₀ B S L a ∧ (∃ o, s.heap.get? a = some o) ∧ a ≠ c)
    (turn : ∀ i B₁ S₁ s₁ m₁ v, items[i]? = some v → Sub S S₁ → Sub B B₁ → B₁.IsCell c (some v) → Frm S₀ s₀ B₁ S₁ L s₁ m₁ → J i S₁ s₁.heap m₁ → (∀ a ∈ fp, Own S₀ B₁ S₁ L a) →
      wpAny (model prog w) A (execs body env) (fun f s₂ => match f with
        | .next | .cont => ∃ S₂ m₃, Sub S₁ S₂ ∧ Frm S₀ s₀ B₁ S₂ L s₂ m₃ ∧ J (i + 1) S₂ s₂.heap m₃ ∧ ∀ a ∈ fp, Own S₀ B₁ S₂ L a
        | .brk => R (.ok .next) s₂
        | .ret v => R (.ok (.ret v)) s₂) (notedBy (model prog w) A env fun e s' => R (.error e) s') s₁)
    (fin : ∀ S₁ s₁ m₁, Sub S S₁ → Frm S₀ s₀ B S₁ L s₁ m₁ → (∃ v, s₁.heap.IsCell c v) → Own S₀ B S₁ L c → J items.size S₁ s₁.heap m₁ → (∀ a ∈ fp, Own S₀ B S₁ L a) → R (.ok .next) s₁)
    (hc : env.cells.lookup x = some c) (hk : env.scope.kind = .function := by rfl) (hx : env.kindOf x = some .cell := by rfl) :
    wpAny (model prog w) A (pyIter (.ref l)) (fun it s₂ => codeAny (model prog w) A (.forLoop (.Name x px) it body [] env) R s₂) E s := by
  refine wpAny_pyIter_list (isList_sub hl F.sub) ?_
  have hsz := push_none s.heap
  have F' := F.grow (h' := s.heap.push { cls := .type "list_iterator", data := .fields #[.ref l, .int 0 0] }) (fun _ _ e => Heap.get?_push_of_some _ e) s.toks
  have OI := F.fresh hsz
  have hIc : s.heap.objs.size ≠ c := by
    rintro rfl
    obtain ⟨o, ho, _⟩ := hcv
    rw [hsz] at ho; cases ho
  refine for_gen2 F' [s.heap.objs.size, c] fp items.size (fun i h => h.IsListIter s.heap.objs.size l i ∧ h.IsList l items ∧ ∃ v, h.IsCell c v ∧ ∀ k, i = k + 1 → v = items[k]?) (fun h => ∃ v, h.IsCell c v) (fun i m₁ m₂ => m₂ = m₁) J
    ⟨⟨_, Heap.get?_push_size _ rfl, rfl, rfl⟩, isList_sub (isList_sub hl F.sub) fun _ _ e => Heap.get?_push_of_some _ e, v₀, hcv.keeps fun _ _ e => Heap.get?_push_of_some _ e, fun k e => by cases e⟩
    (fun b hb => by
      simp only [List.mem_cons, List.mem_nil_iff, or_false] at hb
      rcases hb with rfl | rfl
      · exact OI
      · exact Oc)
    (fun i h hs b hb => by
      simp only [List.mem_cons, List.mem_nil_iff, or_false] at hb
      rcases hb with rfl | rfl
      · obtain ⟨o, ho, _⟩ := hs.1; exact ⟨o, ho⟩
      · obtain ⟨v, ⟨o, ho, _⟩, _⟩ := hs.2.2; exact ⟨o, ho⟩)
    (fun i h h' hs hk hS => ⟨hs.1.at fun o e => hk _ (by simp) o e, isList_sub hl hS, ?_⟩) ?_ ?_
    (hJf _ _ _ _ _ hJ fun b _ o e => Heap.get?_push_of_some _ e) hJf (fun a ha => ⟨(hfp a ha).1, ?_⟩) ?_ ?_
  · obtain ⟨v, ⟨o, ho, hd⟩, hv⟩ := hs.2.2
    exact ⟨v, ⟨o, hk c (by simp) o ho, hd⟩, hv⟩
  · intro i S₁ s₁ m₁ Q E' hi hSS F₁ hW hs hQ
    have hv : items[i]? = some items[i] := by simp [hi]
    refine wpAny_pyNext_list_item hs.1 hs.2.1 hv fun h₁ hit₁ hs₁ => ?_
    show wpAny _ _ (letOwnedTupleGo (.Name x px) _ _) _ _ _
    refine wpAny_of_eq (a := ()) rfl ?_
    have F₂ := F₁.upd (hW _ (by simp)) hs₁.extBut s₁.toks
    obtain ⟨v, hcv₁, _⟩ := hs.2.2
    refine wpAny_assign_Name (wpAny_storeName_cell hk hx hc (hcv₁.sameBut hs₁ (Ne.symm hIc)) fun h₂ hv₂ hs₂ => ?_)
    refine hQ _ m₁ (F₂.upd (hW c (by simp)) hs₂.extBut s₁.toks) rfl ⟨hit₁.at fun o e => (hs₂.2 _ hIc).trans e, isList_sub hl fun b o e => ?_, _, hv₂, fun k e => by cases e; exact hv.symm⟩ fun b o hb hbL e => ?_
    · exact (F₂.upd (hW c (by simp)) hs₂.extBut s₁.toks).sub b o (hSS b o e)
    · simp only [List.mem_cons, List.mem_nil_iff, or_false, not_or] at hb
      exact (hs₂.2 b hb.2).trans (hs₁.extBut b o hb.1 e)
  · intro S₁ s₁ m₁ Q E' hSS F₁ hW hs hQ
    refine (stop_none (S := S₁) hh) s₁ _ l items.size items Q E' F₁.sub hs.1 hs.2.1 (by simp) fun h' tk he => ?_
    obtain ⟨v, ⟨o, ho, hd⟩, _⟩ := hs.2.2
    exact hQ _ (F₁.upd (hW _ (by simp)) he tk) ⟨v, o, he c o (Ne.symm hIc) ho, hd⟩ fun b o hb e => he b o (fun q => hb (by simp [q])) e
  · intro q
    obtain ⟨o, ho⟩ := (hfp a ha).2.1
    simp only [List.mem_cons, List.mem_nil_iff, or_false] at q
    rcases q with rfl | rfl
    · rw [hsz] at ho; cases ho
    · exact (hfp a ha).2.2 rfl
  · rintro i B₁ S₁ s₁ m₁ m₂ hi hSS hBB hBo hBW hst F₁ rfl hJ₁ hO₁
    obtain ⟨v, ⟨o, ho, hd⟩, hv⟩ := hst.2.2
    have hvi := hv i rfl
    have hvs : items[i]? = some items[i] := by simp [hi]
    refine turn i B₁ S₁ s₁ m₂ _ hvs hSS hBB ⟨o, (hBW c (by simp)).trans ho, ?_⟩ F₁ hJ₁ hO₁
    rw [← hvs, ← hvi]; exact hd
  · intro S₁ s₁ m₁ hSS F₁ hfin hW hJ₁ hO₁
    exact fin S₁ s₁ m₁ hSS F₁ hfin (hW c (by simp)) hJ₁ hO₁
end
end Mine

namespace Mine
open PySem.SeqAt PySem.MeetsSeq PySem.Calls

section
variable {prog : Program} {w : World} {A : Around} {E : Value → Shared → Prop} {s : Shared}

theorem dict_iter {d : Addr} {es : Array DictEntry} {n : Nat} {Q : Value → Shared → Prop} (hd : (d == sysModules) = false) (ho : s.heap.get? d = some (dO es n))
    (hQ : Q (.ref s.heap.objs.size) { s with heap := s.heap.push { cls := .type "dict_keyiterator", data := .fields #[.ref d, .int 0 0, .int es.size 0, .int n 0] } }) :
    wpAny (model prog w) A (pyIter (.ref d)) Q E s := by
  have hT : s.TypeIs (.ref d) "dict" := ⟨_, ho, rfl⟩
  refine wpAny_pyIter_slot hT PySem.F.slot_dict_iter (wpAny_call_entry PySem.F.slot_dict_iter hT PySem.F.entry_dict_iter ?_ (PySem.F.args_dict_iter_1 _))
  unfold Builtin.«dict.__iter__»
  refine wpAny_bind ?_
  unfold Builtin.Dict.dictSlotNone
  refine wpAny_bind (wpAny_notOrdered_dict hT ?_)
  show wpAny _ _ (pure (Value.ref d)) _ _ s
  refine wpAny_pure ?_
  show wpAny _ _ (Builtin.Dict.showsAll d >>= _) _ _ s
  unfold Builtin.Dict.showsAll
  rw [if_neg (by rw [hd]; exact Bool.false_ne_true)]
  refine wpAny_bind (wpAny_pure ?_)
  refine wpAny_bind (wpAny_dictEntries ho rfl ?_)
  refine wpAny_bind (wpAny_dictEpoch ho rfl ?_)
  refine wpAny_bind (wpAny_newObj_type (wpAny_pure ⟨_, rfl, "dict_keyiterator", _, ⟨_, Heap.get?_push_size _ rfl, rfl⟩, PySem.F.slot_dict_keyiterator_next.lookup, ?_⟩))
  simpa [rawInt] using hQ

theorem values_iter {v d : Addr} {es : Array DictEntry} {n : Nat} {Q : Value → Shared → Prop} (hv : s.heap.IsValuesView v d) (ho : s.heap.get? d = some (dO es n))
    (hQ : Q (.ref s.heap.objs.size) { s with heap := s.heap.push { cls := .type "dict_valueiterator", data := .fields #[.ref d, .int 0 0, .int es.size 0, .int n 0] } }) :
    wpAny (model prog w) A (pyIter (.ref v)) Q E s := by
  obtain ⟨ov, hov, hcv, hdv⟩ := id hv
  refine wpAny_pyIter_slot hv.typeIs PySem.F.slot_dict_values_iter (wpAny_call_entry PySem.F.slot_dict_values_iter hv.typeIs PySem.F.entry_dict_values_iter ?_ (PySem.F.args_dict_values_iter_1 _))
  unfold Builtin.«dict_values.__iter__»
  refine wpAny_bind (wpAny_pure ?_)
  refine wpAny_bind ?_
  unfold Builtin.Dict_items.dictOf
  refine wpAny_bind (wpAny_field hov hdv (x := .ref d) rfl (wpAny_pure ?_))
  refine wpAny_bind ?_
  unfold Builtin.Dict_items.newIterator
  refine wpAny_bind (wpAny_dictEntries ho rfl ?_)
  refine wpAny_bind (wpAny_dictEpoch ho rfl ?_)
  have hown : Builtin.Dict_items.ownsTuple "dict_valueiterator" = false := by decide
  simp only [hown, Bool.false_eq_true, if_false]
  refine wpAny_newObj_type (wpAny_pure ⟨_, rfl, "dict_valueiterator", _, ⟨_, Heap.get?_push_size _ rfl, rfl⟩, PySem.F.slot_dict_valueiterator_next.lookup, ?_⟩)
  simpa [rawInt] using hQ

theorem key_item {it d : Addr} {i n : Nat} {es : Array DictEntry} {e : DictEntry} {Q : Option Value → Shared → Prop} (hit : s.heap.IsKeyIter it d i es.size n) (hod : s.heap.get? d = some (dO es n)) (hx : es[i]? = some e)
    (hQ : ∀ h', h'.IsKeyIter it d (i + 1) es.size n → Heap.SameBut it s.heap h' → Q (some e.key) { s with heap := h' }) : wpAny (model prog w) A (pyNext (.ref it)) Q E s := by
  obtain ⟨o, ho, hc, hd⟩ := id hit
  unfold pyNext
  refine wpAny_bind (wpAny_attempt (wpAny_callSpecial?_slot (name := Str.ofString "__next__") hit.typeIs PySem.F.slot_dict_keyiterator_next
    (wpAny_call_entry PySem.F.slot_dict_keyiterator_next hit.typeIs PySem.F.entry_dict_keyiterator_next ?_ (PySem.F.args_dict_keyiterator_next_1 _))))
  refine wpAny_bind (wpAny_pure ?_)
  refine wpAny_bind ?_
  refine wpAny_bind ?_
  first | refine wpAny_bind (wpAny_typeNameOfWhole_keyiter hit.typeIs (wpAny_pure ?_)) | refine wpAny_bind (wpAny_typeNameOf_keyiter hit.typeIs (wpAny_pure ?_))
  refine wpAny_bind (wpAny_fieldsOf ho hd ?_)
  have hown : Builtin.Dict_items.ownsTuple "dict_keyiterator" = false := by decide
  simp only [hown, Bool.false_eq_true, if_false]
  show wpAny _ _ (if (Value.ref d == Value.none) = true then _ else _) _ _ s
  rw [if_neg (show ¬ ((Value.ref d == Value.none) = true) from Bool.false_ne_true)]
  refine wpAny_bind (wpAny_pure ?_)
  refine wpAny_bind (wpAny_dictEntries hod rfl ?_)
  rw [if_neg (by simp)]
  refine wpAny_bind (wpAny_pure ?_)
  refine wpAny_bind (wpAny_dictEpoch hod rfl ?_)
  rw [if_neg (by simp)]
  refine wpAny_pure ?_
  simp only [show ¬ ((i : Int) < 0) from by omega, if_false, Int.toNat_natCast, hx]
  refine wpAny_bind ?_
  first | refine wpAny_bind (wpAny_typeNameOfWhole_keyiter hit.typeIs (wpAny_pure ?_)) | refine wpAny_bind (wpAny_typeNameOf_keyiter hit.typeIs (wpAny_pure ?_))
  refine wpAny_bind (wpAny_isOneOf_keyiter hit.typeIs ?_)
  show wpAny _ _ (setField (.ref it) 1 (rawInt ((i : Int) + 1)) >>= _) _ _ s
  refine wpAny_bind (wpAny_setField ho hd (by simp) ?_)
  have hit' : (s.heap.update it (Obj.mapFields (·.setIfInBounds 1 (rawInt ((i : Int) + 1))))).IsKeyIter it d (i + 1) es.size n :=
    ⟨_, Heap.get?_update_self _ ho (Obj.isFreed_of_fields (Obj.data_mapFields hd _)), (Obj.cls_mapFields ..).trans hc, by rw [Obj.data_mapFields hd]; simp [rawInt]⟩
  refine wpAny_bind (wpAny_holding ?_)
  refine wpAny_bind (wpAny_isOneOf_keyiter (s := { s with heap := s.heap.update it (Obj.mapFields (·.setIfInBounds 1 (rawInt ((i : Int) + 1)))) }) hit'.typeIs ?_)
  show wpAny _ _ (pure e.key) _ _ _
  exact wpAny_pure (wpAny_pure ⟨_, rfl, wpAny_pure (hQ _ hit' (Heap.SameBut.update ..))⟩)

theorem val_item {it d : Addr} {i n : Nat} {es : Array DictEntry} {e : DictEntry} {Q : Option Value → Shared → Prop} (hit : s.heap.IsValIter it d i es.size n) (hod : s.heap.get? d = some (dO es n)) (hx : es[i]? = some e)
    (hQ : ∀ h', h'.IsValIter it d (i + 1) es.size n → Heap.SameBut it s.heap h' → Q (some e.val) { s with heap := h' }) : wpAny (model prog w) A (pyNext (.ref it)) Q E s := by
  obtain ⟨o, ho, hc, hd⟩ := id hit
  unfold pyNext
  refine wpAny_bind (wpAny_attempt (wpAny_callSpecial?_slot (name := Str.ofString "__next__") hit.typeIs PySem.F.slot_dict_valueiterator_next
    (wpAny_call_entry PySem.F.slot_dict_valueiterator_next hit.typeIs PySem.F.entry_dict_valueiterator_next ?_ (PySem.F.args_dict_valueiterator_next_1 _))))
  refine wpAny_bind (wpAny_pure ?_)
  refine wpAny_bind ?_
  refine wpAny_bind ?_
  first | refine wpAny_bind (wpAny_typeNameOfWhole_valiter hit.typeIs (wpAny_pure ?_)) | refine wpAny_bind (wpAny_typeNameOf_valiter hit.typeIs (wpAny_pure ?_))
  refine wpAny_bind (wpAny_fieldsOf ho hd ?_)
  have hown : Builtin.Dict_items.ownsTuple "dict_valueiterator" = false := by decide
  simp only [hown, Bool.false_eq_true, if_false]
  show wpAny _ _ (if (Value.ref d == Value.none) = true then _ else _) _ _ s
  rw [if_neg (show ¬ ((Value.ref d == Value.none) = true) from Bool.false_ne_true)]
  refine wpAny_bind (wpAny_pure ?_)
  refine wpAny_bind (wpAny_dictEntries hod rfl ?_)
  rw [if_neg (by simp)]
  refine wpAny_bind (wpAny_pure ?_)
  refine wpAny_bind (wpAny_dictEpoch hod rfl ?_)
  rw [if_neg (by simp)]
  refine wpAny_pure ?_
  simp only [show ¬ ((i : Int) < 0) from by omega, if_false, Int.toNat_natCast, hx]
  refine wpAny_bind ?_
  first | refine wpAny_bind (wpAny_typeNameOfWhole_valiter hit.typeIs (wpAny_pure ?_)) | refine wpAny_bind (wpAny_typeNameOf_valiter hit.typeIs (wpAny_pure ?_))
  refine wpAny_bind (wpAny_isOneOf_valiter hit.typeIs ?_)
  show wpAny _ _ (setField (.ref it) 1 (rawInt ((i : Int) + 1)) >>= _) _ _ s
  refine wpAny_bind (wpAny_setField ho hd (by simp) ?_)
  have hit' : (s.heap.update it (Obj.mapFields (·.setIfInBounds 1 (rawInt ((i : Int) + 1))))).IsValIter it d (i + 1) es.size n :=
    ⟨_, Heap.get?_update_self _ ho (Obj.isFreed_of_fields (Obj.data_mapFields hd _)), (Obj.cls_mapFields ..).trans hc, by rw [Obj.data_mapFields hd]; simp [rawInt]⟩
  refine wpAny_bind (wpAny_holding ?_)
  refine wpAny_bind (wpAny_isOneOf_valiter (s := { s with heap := s.heap.update it (Obj.mapFields (·.setIfInBounds 1 (rawInt ((i : Int) + 1)))) }) hit'.typeIs ?_)
  refine wpAny_bind (wpAny_isOneOf_valiter (s := { s with heap := s.heap.update it (Obj.mapFields (·.setIfInBounds 1 (rawInt ((i : Int) + 1)))) }) hit'.typeIs ?_)
  show wpAny _ _ (pure e.val) _ _ _
  exact wpAny_pure (wpAny_pure ⟨_, rfl, wpAny_pure (hQ _ hit' (Heap.SameBut.update ..))⟩)

theorem key_end {it d : Addr} {n : Nat} {es : Array DictEntry} {Q : Option Value → Shared → Prop} (hh : A.handled = none) (hit : s.heap.IsKeyIter it d es.size es.size n) (hod : s.heap.get? d = some (dO es n))
    (hQ : ∀ h', Heap.ExtBut it s.heap h' → Q none { s with heap := h' }) : wpAny (model prog w) A (pyNext (.ref it)) Q E s := by
  obtain ⟨o, ho, hc, hd⟩ := id hit
  unfold pyNext
  refine wpAny_bind (wpAny_attempt (wpAny_callSpecial?_slot (name := Str.ofString "__next__") hit.typeIs PySem.F.slot_dict_keyiterator_next
    (wpAny_call_entry PySem.F.slot_dict_keyiterator_next hit.typeIs PySem.F.entry_dict_keyiterator_next ?_ (PySem.F.args_dict_keyiterator_next_1 _))))
  refine wpAny_bind (wpAny_pure ?_)
  refine wpAny_bind ?_
  refine wpAny_bind ?_
  first | refine wpAny_bind (wpAny_typeNameOfWhole_keyiter hit.typeIs (wpAny_pure ?_)) | refine wpAny_bind (wpAny_typeNameOf_keyiter hit.typeIs (wpAny_pure ?_))
  refine wpAny_bind (wpAny_fieldsOf ho hd ?_)
  have hown : Builtin.Dict_items.ownsTuple "dict_keyiterator" = false := by decide
  simp only [hown, Bool.false_eq_true, if_false]
  show wpAny _ _ (if (Value.ref d == Value.none) = true then _ else _) _ _ s
  rw [if_neg (show ¬ ((Value.ref d == Value.none) = true) from Bool.false_ne_true)]
  refine wpAny_bind (wpAny_pure ?_)
  refine wpAny_bind (wpAny_dictEntries hod rfl ?_)
  rw [if_neg (by simp)]
  refine wpAny_bind (wpAny_pure ?_)
  refine wpAny_bind (wpAny_dictEpoch hod rfl ?_)
  rw [if_neg (by simp)]
  refine wpAny_pure ?_
  simp only [show ¬ ((es.size : Int) < 0) from by omega, if_false, Int.toNat_natCast, Array.getElem?_eq_none (Nat.le_refl es.size)]
  refine wpAny_bind ?_
  first | refine wpAny_bind (wpAny_typeNameOfWhole_keyiter hit.typeIs (wpAny_pure ?_)) | refine wpAny_bind (wpAny_typeNameOf_keyiter hit.typeIs (wpAny_pure ?_))
  show wpAny _ _ (setField (.ref it) 0 .none >>= _) _ _ s
  refine wpAny_bind (wpAny_setField ho hd (by simp) ?_)
  show wpAny _ _ (newExc (.type "StopIteration") [] >>= _) _ _ _
  refine wpAny_bind ?_
  simp only [newExc, newTuple]
  refine wpAny_bind (wpAny_newObj_type ?_ (by size_fits))
  refine wpAny_bind (m := firstArgMember _ _) (wpAny_of_eq (a := Value.none) (by first | rfl | (simp only [firstArgMember]; rfl)) ?_)
  refine wpAny_newObj_type ?_ (by size_fits)
  simp only [raiseNew]
  refine wpAny_bind (wpAny_handled ?_)
  rw [show A.in1.handled = none from hh]
  refine wpAny_bind (wpAny_pure (wpAny_throw ?_))
  refine wpAny_bind (wpAny_isInstance (T := "StopIteration") (b := true) ⟨_, Heap.get?_push_size _ rfl, rfl⟩ isSubtype_stop ?_)
  exact wpAny_pure (hQ _ (((Heap.SameBut.update ..).extBut.push _).push _))

theorem val_end {it d : Addr} {n : Nat} {es : Array DictEntry} {Q : Option Value → Shared → Prop} (hh : A.handled = none) (hit : s.heap.IsValIter it d es.size es.size n) (hod : s.heap.get? d = some (dO es n))
    (hQ : ∀ h', Heap.ExtBut it s.heap h' → Q none { s with heap := h' }) : wpAny (model prog w) A (pyNext (.ref it)) Q E s := by
  obtain ⟨o, ho, hc, hd⟩ := id hit
  unfold pyNext
  refine wpAny_bind (wpAny_attempt (wpAny_callSpecial?_slot (name := Str.ofString "__next__") hit.typeIs PySem.F.slot_dict_valueiterator_next
    (wpAny_call_entry PySem.F.slot_dict_valueiterator_next hit.typeIs PySem.F.entry_dict_valueiterator_next ?_ (PySem.F.args_dict_valueiterator_next_1 _))))
  refine wpAny_bind (wpAny_pure ?_)
  refine wpAny_bind ?_
  refine wpAny_bind ?_
  first | refine wpAny_bind (wpAny_typeNameOfWhole_valiter hit.typeIs (wpAny_pure ?_)) | refine wpAny_bind (wpAny_typeNameOf_valiter hit.typeIs (wpAny_pure ?_))
  refine wpAny_bind (wpAny_fieldsOf ho hd ?_)
  have hown : Builtin.Dict_items.ownsTuple "dict_valueiterator" = false := by decide
  simp only [hown, Bool.false_eq_true, if_false]
  show wpAny _ _ (if (Value.ref d == Value.none) = true then _ else _) _ _ s
  rw [if_neg (show ¬ ((Value.ref d == Value.none) = true) from Bool.false_ne_true)]
  refine wpAny_bind (wpAny_pure ?_)
  refine wpAny_bind (wpAny_dictEntries hod rfl ?_)
  rw [if_neg (by simp)]
  refine wpAny_bind (wpAny_pure ?_)
  refine wpAny_bind (wpAny_dictEpoch hod rfl ?_)
  rw [if_neg (by simp)]
  refine wpAny_pure ?_
  simp only [show ¬ ((es.size : Int) < 0) from by omega, if_false, Int.toNat_natCast, Array.getElem?_eq_none (Nat.le_refl es.size)]
  refine wpAny_bind ?_
  first | refine wpAny_bind (wpAny_typeNameOfWhole_valiter hit.typeIs (wpAny_pure ?_)) | refine wpAny_bind (wpAny_typeNameOf_valiter hit.typeIs (wpAny_pure ?_))
  show wpAny _ _ (setField (.ref it) 0 .none >>= _) _ _ s
  refine wpAny_bind (wpAny_setField ho hd (by simp) ?_)
  show wpAny _ _ (newExc (.type "StopIteration") [] >>= _) _ _ _
  refine wpAny_bind ?_
  simp only [newExc, newTuple]
  refine wpAny_bind (wpAny_newObj_type ?_ (by size_fits))
  refine wpAny_bind (m := firstArgMember _ _) (wpAny_of_eq (a := Value.none) (by first | rfl | (simp only [firstArgMember]; rfl)) ?_)
  refine wpAny_newObj_type ?_ (by size_fits)
  simp only [raiseNew]
  refine wpAny_bind (wpAny_handled ?_)
  rw [show A.in1.handled = none from hh]
  refine wpAny_bind (wpAny_pure (wpAny_throw ?_))
  refine wpAny_bind (wpAny_isInstance (T := "StopIteration") (b := true) ⟨_, Heap.get?_push_size _ rfl, rfl⟩ isSubtype_stop ?_)
  exact wpAny_pure (hQ _ (((Heap.SameBut.update ..).extBut.push _).push _))
end

section
variable {prog : Program} {w : World} {A : Around} {E : Value → Shared → Prop} {s : Shared} {es : Array DictEntry} {n : Nat}

theorem walks_keys (hh : A.handled = none) (I d : Addr) (hne : d ≠ I) : Walks prog w A I [I, d] [I] es.size (fun i v => ∃ e, es[i]? = some e ∧ v = e.key) (fun i h => h.IsKeyIter I d i es.size n ∧ h.get? d = some (dO es n)) where
  sub := fun b hb => by simp at hb; simp [hb]
  frame := fun _ _ _ st hk => ⟨st.1.at fun o e => hk I (by simp) o e, hk d (by simp) _ st.2⟩
  item := fun i s Q E hi st hQ => by
    have hx : es[i]? = some es[i] := by simp [hi]
    refine key_item st.1 st.2 hx fun h' hit' hs' => ?_
    exact hQ _ h' s.toks ⟨_, hx, rfl⟩ ⟨hit', hs'.extBut d _ hne st.2⟩ fun b o hb e => hs'.extBut b o (fun h => hb (by simp [h])) e
  done := fun s Q E st hQ => key_end hh st.1 st.2 fun h' he' => hQ h' s.toks fun b o hb e => he' b o (fun h => hb (by simp [h])) e
  self := fun _ _ _ _ st hQ => wpAny_pyIter_keyiter st.1 hQ
theorem walks_vals (hh : A.handled = none) (I d : Addr) (hne : d ≠ I) : Walks prog w A I [I, d] [I] es.size (fun i v => ∃ e, es[i]? = some e ∧ v = e.val) (fun i h => h.IsValIter I d i es.size n ∧ h.get? d = some (dO es n)) where
  sub := fun b hb => by simp at hb; simp [hb]
  frame := fun _ _ _ st hk => ⟨st.1.at fun o e => hk I (by simp) o e, hk d (by simp) _ st.2⟩
  item := fun i s Q E hi st hQ => by
    have hx : es[i]? = some es[i] := by simp [hi]
    refine val_item st.1 st.2 hx fun h' hit' hs' => ?_
    exact hQ _ h' s.toks ⟨_, hx, rfl⟩ ⟨hit', hs'.extBut d _ hne st.2⟩ fun b o hb e => hs'.extBut b o (fun h => hb (by simp [h])) e
  done := fun s Q E st hQ => val_end hh st.1 st.2 fun h' he' => hQ h' s.toks fun b o hb e => he' b o (fun h => hb (by simp [h])) e
  self := fun _ _ _ _ st hQ => wpAny_pyIter_valiter st.1 hQ

theorem src_keys {d : Addr} (lo : (d == sysModules) = false) : KdlSrc prog w "dict" d d es.size (fun i v => ∃ e, es[i]? = some e ∧ v = e.key) (fun h => h.get? d = some (dO es n)) where
  type := fun _ hm => ⟨_, hm, rfl⟩
  there := fun _ hm => ⟨Heap.lt_size hm, Heap.lt_size hm⟩
  keep := fun _ _ hm hk => hk d (.inl rfl) _ hm
  notList := by decide
  notTuple := by decide
  hint := fun _ _ s _ hm hq => kdl_hint_dict (s := s) ⟨_, hm, rfl⟩ hq
  iter := fun _ _ hh hm => ⟨_, _, (fun _ _ hq => dict_iter lo hm hq), walks_keys hh _ d (Nat.ne_of_lt (Heap.lt_size hm)), ⟨⟨_, Heap.get?_push_size _ rfl, rfl, rfl⟩, Heap.get?_push_of_some _ hm⟩⟩
theorem src_vals {r d : Addr} : KdlSrc prog w "dict_values" r d es.size (fun i v => ∃ e, es[i]? = some e ∧ v = e.val) (fun h => h.IsValuesView r d ∧ h.get? d = some (dO es n)) where
  type := fun _ hm => hm.1.typeIs
  there := fun _ hm => ⟨let ⟨_, ho, _⟩ := hm.1; Heap.lt_size ho, Heap.lt_size hm.2⟩
  keep := fun _ _ hm hk => ⟨let ⟨o, ho, x⟩ := hm.1; ⟨o, hk r (.inl rfl) o ho, x⟩, hk d (.inr rfl) _ hm.2⟩
  notList := by decide
  notTuple := by decide
  hint := fun _ _ _ _ hm hq => kdl_hint_values hm.1.typeIs hq
  iter := fun _ _ hh hm => ⟨_, _, (fun _ _ hq => values_iter hm.1 hm.2 hq), walks_vals hh _ d (Nat.ne_of_lt (Heap.lt_size hm.2)), ⟨⟨_, Heap.get?_push_size _ rfl, rfl, rfl⟩, Heap.get?_push_of_some _ hm.2⟩⟩

theorem items_list {es : Array DictEntry} {f : DictEntry → Value} {acc : Array Value} (x : ItemsOf (fun i v => ∃ e, es[i]? = some e ∧ v = f e) acc es.size) : acc = (es.toList.map f).toArray := by
  refine Array.ext (by simp [x.1]) fun i h1 h2 => ?_
  obtain ⟨e, he, hv⟩ := x.2 i acc[i] (by simp [h1])
  have hi : i < es.size := by rw [← x.1]; exact h1
  rw [Array.getElem?_eq_getElem hi] at he
  cases he
  simp [hv]

theorem list_of_dict {S : Heap} {d : Addr} {Q : Value → Shared → Prop} (lo : (d == sysModules) = false) (hh : A.handled = none) (hS : Sub S s.heap) (ho : S.get? d = some (dO es n)) (hn : es.size ≤ 1000)
    (hQ : ∀ S' s' D, Ext S s S' s' → S'.PlainList D (es.toList.map (·.key)).toArray → Q (.ref D) s') : wpAny (model prog w) A (call (.type "list") [.ref d]) Q E s := by
  refine kdl_call (src_keys (es := es) (n := n) lo) hh (hS _ _ ho) (by unfold sizeLine; omega) fun h' tk acc' c' hk hD hacc => ?_
  have x : Ext S s S { s with heap := h', toks := tk } := ⟨⟨h', tk, rfl⟩, hk, fun _ _ e => e, fun b o e => hk b o (hS b o e), fun _ _ _ => rfl⟩
  rw [items_list hacc] at hD
  obtain ⟨S', x', _, h2, _⟩ := x.take (push_none s.heap) hD (by
    cases e : S.get? s.heap.objs.size with
    | none => rfl
    | some o => have := hS _ _ e; rw [push_none] at this; cases this)
  exact hQ S' _ _ x' ⟨c', h2⟩
theorem list_of_vals {S : Heap} {r d : Addr} {Q : Value → Shared → Prop} (hh : A.handled = none) (hS : Sub S s.heap) (hv : s.heap.IsValuesView r d) (ho : S.get? d = some (dO es n)) (hn : es.size ≤ 1000)
    (hQ : ∀ S' s' D, Ext S s S' s' → S'.PlainList D (es.toList.map (·.val)).toArray → Q (.ref D) s') : wpAny (model prog w) A (call (.type "list") [.ref r]) Q E s := by
  refine kdl_call (src_vals (es := es) (n := n)) hh ⟨hv, hS _ _ ho⟩ (by unfold sizeLine; omega) fun h' tk acc' c' hk hD hacc => ?_
  have x : Ext S s S { s with heap := h', toks := tk } := ⟨⟨h', tk, rfl⟩, hk, fun _ _ e => e, fun b o e => hk b o (hS b o e), fun _ _ _ => rfl⟩
  rw [items_list hacc] at hD
  obtain ⟨S', x', _, h2, _⟩ := x.take (push_none s.heap) hD (by
    cases e : S.get? s.heap.objs.size with
    | none => rfl
    | some o => have := hS _ _ e; rw [push_none] at this; cases this)
  exact hQ S' _ _ x' ⟨c', h2⟩

theorem values_call {d : Addr} {Q : Value → Shared → Prop} (lo : (d == sysModules) = false) (ho : s.heap.get? d = some (dO es n))
    (hQ : ∀ h' r, Sub s.heap h' → h'.IsValuesView r d → Q (.ref r) { s with heap := h' }) : wpAny (model prog w) A (call (.builtin "dict.values") [.ref d]) Q E s := by
  have hT : s.TypeIs (.ref d) "dict" := ⟨_, ho, rfl⟩
  refine wpAny_call_entry PySem.F.slot_dict_values hT PySem.F.entry_dict_values ?_ (PySem.F.args_dict_values_1 _)
  unfold Builtin.«dict.values»
  refine wpAny_bind ?_
  unfold Builtin.Dict.noArgs
  refine wpAny_bind (wpAny_notOrdered_dict hT ?_)
  show wpAny _ _ (pure d) _ _ s
  refine wpAny_pure ?_
  show wpAny _ _ (Builtin.Dict.showsAll d >>= _) _ _ s
  unfold Builtin.Dict.showsAll
  rw [if_neg (by rw [lo]; exact Bool.false_ne_true)]
  refine wpAny_bind (wpAny_pure ?_)
  exact wpAny_bind (wpAny_newObj_type (wpAny_pure ⟨_, rfl, hQ _ _ (fun _ _ e => Heap.get?_push_of_some _ e) ⟨_, Heap.get?_push_size _ rfl, rfl, rfl⟩⟩))
end
end Mine

namespace Mine
open PySem.SeqAt PySem.MeetsSeq PySem.Calls PySem.Spec

theorem nones_carried : ∀ n : Nat, CarriedAll (List.replicate n Value.none) ((List.replicate n ()).map fun _ => PyData.none)
  | 0 => .nil
  | n + 1 => .cons .none (nones_carried n)
theorem nones_lay : ∀ n : Nat, PyData.canLayAll0 ((List.replicate n ()).map fun _ => PyData.none) = true
  | 0 => rfl
  | n + 1 => by simp only [List.replicate_succ, List.map_cons, PyData.canLayAll0, PyData.canLay0, Bool.true_and]; exact nones_lay n
theorem nones_depth : ∀ n : Nat, PyData.depthAll ((List.replicate n ()).map fun _ => PyData.none) = 0
  | 0 => rfl
  | n + 1 => by simp only [List.replicate_succ, List.map_cons, PyData.depthAll, PyData.depth, nones_depth n]; rfl
theorem nones_same : ∀ n : Nat, PySem.Spec.sameAll ((List.replicate n ()).map fun _ => PyData.none) ((List.replicate n ()).map fun _ => PyData.none) = true
  | 0 => rfl
  | n + 1 => by simp only [List.replicate_succ, List.map_cons, PySem.Spec.sameAll, PySem.Spec.same, nones_same n]; rfl
theorem nones_shaped (n : Nat) : SeqAt.shaped (.list ((List.replicate n ()).map fun _ => PyData.none)) = true := by
  simp [SeqAt.shaped, PyData.canLay0, PyData.depth, nones_depth]
  have h1 := nones_lay n
  have h2 := nones_depth n
  simp only [List.map_replicate] at h1 h2
  exact ⟨h1, by omega⟩

section
variable {prog : Program} {w : World} {A : Around} {E : Value → Shared → Prop} {s : Shared}

theorem ne_nones {a b : Addr} {n : Nat} {Q : Value → Shared → Prop} (ha : s.heap.IsList a (List.replicate n Value.none).toArray) (hb : s.heap.IsList b (List.replicate n Value.none).toArray) (hu : A.units + 64 < cLine) (h : Q (.bool false) s) :
    wpAny (model prog w) A (compareOp .NotEq (.ref a) (.ref b)) Q E s :=
  ne_dataH_same (reads_newData ha (nones_carried n)) (reads_newData hb (nones_carried n)) (nones_shaped n) (nones_shaped n) hu
    (SeqAt.noMix_of_shape (.list .none) rfl _ _ (list_map_has fun _ => rfl) (list_map_has fun _ => rfl)) (by
      have e : PySem.Spec.same (.list ((List.replicate n ()).map fun _ => PyData.none)) (.list ((List.replicate n ()).map fun _ => PyData.none)) = true := by
        simp only [PySem.Spec.same]; exact nones_same n
      rw [e]; exact h)

theorem isNot_bools {x y : Bool} {Q : Value → Shared → Prop} (h : Q (.bool (x != y)) s) : wpAny (model prog w) A (compareOp .IsNot (.bool x) (.bool y)) Q E s := by
  have e : compareOp .IsNot (.bool x) (.bool y) = pure (.bool (x != y)) := by
    show (do return .bool (!(← isSame (.bool x) (.bool y))) : Sem Value) = _
    have : isSame (.bool x) (.bool y) = pure (x == y) := by
      cases x <;> cases y <;> rfl
    rw [this]; cases x <;> cases y <;> rfl
  exact wpAny_of_eq e h

theorem ext_push2 {S : Heap} {o₁ o₂ : Obj} (hS : Sub S s.heap) (ho : o₂.isFreed = false) : ∃ S', Ext S s S' { s with heap := (s.heap.push o₁).push o₂ } ∧ S'.get? (s.heap.objs.size + 1) = some o₂ := by
  have x : Ext S s S { s with heap := (s.heap.push o₁).push o₂ } := ⟨⟨_, _, rfl⟩, fun b o e => Heap.get?_push_of_some _ (Heap.get?_push_of_some _ e), fun _ _ e => e, fun b o e => Heap.get?_push_of_some _ (Heap.get?_push_of_some _ (hS b o e)), fun _ _ _ => rfl⟩
  have hn : s.heap.get? (s.heap.objs.size + 1) = none := get?_none_of_size (fun _ _ e => e) (Nat.le_succ _)
  have hg : ((s.heap.push o₁).push o₂).get? (s.heap.objs.size + 1) = some o₂ := by
    have := Heap.get?_push_size (s.heap.push o₁) (o := o₂) ho
    rw [Heap.size_push] at this; exact this
  obtain ⟨S', x', _, h2, _⟩ := x.take hn hg (by
    cases e : S.get? (s.heap.objs.size + 1) with
    | none => rfl
    | some o => rw [hS _ _ e] at hn; cases hn)
  exact ⟨S', x', h2⟩

theorem max_row {S : Heap} {l : Addr} {vs : List Value} {ns : List Int} {Q : Value → Shared → Prop} (hh : A.handled = none) (hS : Sub S s.heap) (hl : S.IsList l vs.toArray) (hi : IntsAre vs ns) (hne : 0 < ns.length)
    (h : ∀ s' M t, Ext S s S s' → M ∈ ns → (∀ a, a ∈ ns → a ≤ M) → Q (.int M t) s') : wpAny (model prog w) A (call (.builtin "max") [.ref l]) Q E s := by
  have hall := hi.allInts
  obtain ⟨xs, hx⟩ := hall.items
  have hns : ns = numsOf vs.toArray.toList := by rw [show vs.toArray.toList = vs from rfl, hi.numsOf]
  have hsz : 0 < xs.size := by
    have : vs.toArray.size = xs.size := by rw [hx]; simp [intItems]
    rw [List.size_toArray, hi.length] at this
    omega
  have hl' : s.heap.IsList l (intItems xs) := by rw [← hx]; exact isList_sub hl hS
  refine max_intList hh hl' hsz fun v h' tk hv hk => ?_
  obtain ⟨t, rfl⟩ := intItems_at hv
  obtain ⟨h1, h2⟩ := argBest_gt (numAt xs) (xs.size - 1)
  rw [hx, nums_intItems] at hns
  refine h _ _ t ⟨⟨h', tk, rfl⟩, hk, fun _ _ e => e, fun b o e => hk b o (hS b o e), fun _ _ _ => rfl⟩ ?_ fun a ha => ?_
  · rw [hns, numAt_eq]; exact getD_mem (by rw [List.length_map, Array.length_toList]; omega)
  · rw [hns] at ha
    obtain ⟨j, hj, rfl⟩ := mem_getD ha
    rw [List.length_map, Array.length_toList] at hj
    rw [← numAt_eq]; exact h2 j (by omega)

theorem sorted_row {S : Heap} {l : Addr} {vs : List Value} {ns : List Int} {Q : Value → Shared → Prop} (hS : Sub S s.heap) (hl : S.IsList l vs.toArray) (hi : IntsAre vs ns) (h64 : vs.length < 64)
    (h : ∀ S' s' D (out : List Value) ns', Ext S s S' s' → S'.IsList D out.toArray → IntsAre out ns' → ns'.Perm ns → ns'.Pairwise (· ≤ ·) → Q (.ref D) s') : wpAny (model prog w) A (call (.builtin "sorted") [.ref l]) Q E s := by
  refine sorted_ints (isList_sub hl hS) hi h64 fun out ns' h1 h2 h3 => ?_
  have x : Ext S s S { s with heap := sortedAll s.heap vs out } := ⟨⟨_, _, rfl⟩, fun b o e => sortedAll_old e, fun _ _ e => e, fun b o e => sortedAll_old (hS b o e), fun _ _ _ => rfl⟩
  have hn : s.heap.get? (s.heap.objs.size + 1) = none := get?_none_of_size (fun _ _ e => e) (Nat.le_succ _)
  obtain ⟨e, he⟩ := sortedAll_at s.heap vs out
  obtain ⟨S', x', _, h2', _⟩ := x.take hn he (by
    cases e : S.get? (s.heap.objs.size + 1) with
    | none => rfl
    | some o => rw [hS _ _ e] at hn; cases hn)
  exact h S' _ _ out.toList ns' x' ⟨_, h2', rfl, e, by simp [seqObj]⟩ h1 h2 h3
end

section
variable {prog : Program} {w : World} {A : Around} {E : Value → Shared → Prop} {s : Shared} {env : Env} {S : Heap}

/-- a call with a keyword -/
theorem eval_call_kw {f x : Str} {p₁ p₂ p₃ : Pos} {e k : Expr} {a : Addr} {fd : FuncData} {Q : Value → Shared → Prop} (G : Gnd S) (hS : Sub S s.heap) (hf : gtab.lookup f = some a) (hfd : ftab.lookup a = some fd)
    (h : wpAny (model prog w) A (eval e env) (fun v s₁ => wpAny (model prog w) A (eval k env) (fun u s₂ => Sub S s₂.heap ∧ wpAny (model prog w) A (call (.ref a) [v] [(x, u)]) Q E s₂) E s₁) E s)
    (hk : env.scope.kind = .function := by rfl) (hl : env.kindOf f = some .globalImplicit := by rfl) (hg : env.globals = mainGlobals := by rfl) (hd : (f == ("__debug__" : Str)) = false := by decide)
    (hstar : starEach [e] env = (false, eval e env) :: starEach [] env := by rfl) :
    wpAny (model prog w) A (eval (.Call (.Name f p₁) [e] [{ arg := some x, value := k, pos := p₃ }] p₂) env) Q E s := by
  refine wpAny_Call_Name_kw (ldG G hS hf ?_ hk hl hg hd)
  refine callWith_def_kw (o := fnO fd) (fd := fd) rfl ?_
  refine evalArgs_kw2 rfl ?_ hstar
  refine spliced_more (wpAny_mono h (fun v s₁ h₁ => spliced_none ?_) fun _ _ e => e) hstar
  exact kwAll_cons (wpAny_mono h₁ (fun u s₂ h₂ => kwAll_nil ⟨h₂.1 _ _ (G.fn a fd hfd).1, h₂.2⟩) fun _ _ e => e)
end
end Mine

namespace Mine
open PySem.SeqAt PySem.MeetsSeq PySem.Calls

def lawScope : Scope := match pbody[(11 : Nat)]? with | some (.FunctionDef _ _ _ _ _ _ scope _ _ _) => scope | _ => default
abbrev lawEnv (L fa : Addr) (cd : Value) : Env := envOfC (Str.ofString "law") lawScope L fa cd
def rowBody : List Stmt := match (bodyOf 11)[(1 : Nat)]? with | some (.For _ _ body _ _) => body | _ => []
def rowStmt (i : Nat) : Stmt := match rowBody[i]? with | some x => x | none => .Pass ⟨0, 0, 0, 0⟩

abbrev xScript : Str := Str.ofString "script"
abbrev xRows : Str := Str.ofString "rows"
abbrev xKept : Str := Str.ofString "kept"
abbrev xTable : Str := Str.ofString "table"
abbrev xOthers : Str := Str.ofString "others"
abbrev xAlike : Str := Str.ofString "alike"

theorem cell_row {L fa : Addr} {cd : Value} : (lawEnv L fa cd).cells.lookup xRow = some (L + 1) := by rfl
theorem cell_things {L fa : Addr} {cd : Value} : (lawEnv L fa cd).cells.lookup xThings = some (L + 1 + 1) := by rfl
theorem cell_other {L fa : Addr} {cd : Value} : (lawEnv L fa cd).cells.lookup xOther = some (L + 1 + 1 + 1) := by rfl

section
variable {prog : Program} {w : World} {A : Around} {E : Value → Shared → Prop} {s : Shared} {env : Env}

theorem ListComp_go {elt iter : Expr} {x : Str} {px : Pos} {scope : Scope} (cl : List (Str × Addr)) {pos : Pos} {Q : Value → Shared → Prop}
    (h : wpAny (model prog w) A (eval iter env) (fun xv s₁ => wpAny (model prog w) A (pyIter xv) (fun it s₂ => wpAny (model prog w) A (newList []) (fun acc s₃ => wpAny (model prog w) A (newFunctionEnv scope env.globals cl [] env.qual none .none (some env)) (fun cenv s₄ =>
      codeAny (model prog w) A (.compStart (.ListComp elt [⟨.Name x px, iter, [], 0⟩] scope pos) 0 it acc { cenv with scope := relabel scope env }) (compPost (model prog w) A E none Q acc cenv.locals) s₄) E s₃) E s₂) E s₁) E s)
    (hclos : closureFor scope env = pure cl := by rfl) (hs : ∀ x, foldedSetIterable iter env x = pure x := by intro _; rfl) (hkind : scope.kind = .function := by rfl) (hnames : ∀ y ∈ scope.names, y.2 = .local → scope.names.lookup y.1 = some .local := by decide) :
    wpAny (model prog w) A (eval (.ListComp elt [⟨.Name x px, iter, [], 0⟩] scope pos) env) Q E s := by
  rw [eval_ListComp]
  exact wpAny_comprehension_free (use := none) rfl hs hclos hkind hnames h

theorem AssignComp_go {elt iter : Expr} {x z : Str} {px pz spos : Pos} {scope : Scope} (cl : List (Str × Addr)) {pos : Pos} {Q : Flow → Shared → Prop}
    (h : wpAny (model prog w) A (eval iter env) (fun xv s₁ => wpAny (model prog w) A (pyIter xv) (fun it s₂ => wpAny (model prog w) A (newList []) (fun acc s₃ => wpAny (model prog w) A (newFunctionEnv scope env.globals cl [] env.qual none .none (some env)) (fun cenv s₄ =>
      codeAny (model prog w) A (.compStart (.ListComp elt [⟨.Name x px, iter, [], 0⟩] scope pos) 0 it acc { cenv with scope := relabel scope env }) (compPost (model prog w) A E (some (assign (.Name z pz) env)) (fun _ s' => Q .next s') acc cenv.locals) s₄) E s₃) E s₂) E s₁) E s)
    (hsw : swapsWith (.ListComp elt [⟨.Name x px, iter, [], 0⟩] scope pos) (some (.Name z pz)) spos.line env = pure true := by rfl)
    (hclos : closureFor scope env = pure cl := by rfl) (hs : ∀ x, foldedSetIterable iter env x = pure x := by intro _; rfl) (hkind : scope.kind = .function := by rfl) (hnames : ∀ y ∈ scope.names, y.2 = .local → scope.names.lookup y.1 = some .local := by decide) :
    wpAny (model prog w) A (exec (.Assign [.Name z pz] (.ListComp elt [⟨.Name x px, iter, [], 0⟩] scope pos) spos) env) Q E s := by
  rw [exec_Assign_Name_used _ _ _ _ hsw]
  refine wpAny_bind (wpAny_standAt (wpAny_bind ?_))
  show wpAny _ A (do let _ ← comprehension (.ListComp elt [⟨.Name x px, iter, [], 0⟩] scope pos) scope env _ (newList []) false (eval iter env) (some (assign (.Name z pz) env))) _ _ s
  exact wpAny_bind (wpAny_mono (wpAny_comprehension_free (use := some (assign (.Name z pz) env)) (Q := fun _ s' => Q .next s') rfl hs hclos hkind hnames h) (fun _ s' hq => wpAny_pure (wpAny_pure hq)) fun _ _ e => e)

theorem ldCl {x : Str} {pos : Pos} {c : Addr} {v : Value} {Q : Value → Shared → Prop} (hc : env.cells.lookup x = some c) (hv : s.heap.IsCell c (some v)) (h : Q v s)
    (hk : env.scope.kind = .function := by rfl) (hl : env.kindOf x = some .cell := by rfl) (hd : (x == ("__debug__" : Str)) = false := by decide) :
    wpAny (model prog w) A (eval (.Name x pos) env) Q E s := wpAny_Name (wpAny_loadName_cell hk hl hc hv h) hd

/-- _law_thing(k) within a comprehension -/
theorem thing_turn {S S₁ H : Heap} {C : Addr} {s₁ : Shared} {m₁ : Str → Option Value} {k : Nat} {t : Tok} {p₁ p₂ p₃ : Pos} {cenv : Env} {E' : Value → Shared → Prop} (G : Gnd S₁) (F : Frm S s H S₁ C s₁ m₁) (hm : m₁ xK = some (.int k t)) (hk16 : k < 16) (hdep : A.depth < recursionLimit)
    (hk : cenv.scope.kind = .function := by rfl) (hl : cenv.kindOf (Str.ofString "_law_thing") = some .globalImplicit := by rfl) (hl' : cenv.kindOf xK = some .local := by rfl) (hg : cenv.globals = mainGlobals := by rfl) (hL : cenv.locals = C := by rfl) :
    wpAny (model prog w) A (eval (.Call (.Name (Str.ofString "_law_thing") p₁) [.Name xK p₂] [] p₃) cenv) (fun y s₂ => ∃ S₂, Ext S₁ s₁ S₂ s₂ ∧ TAt S₂ y k) E' s₁ := by
  refine eval_call1 G F.sub (a := 43) rfl rfl (ldL F (v := .int k t) hm ⟨F.sub, ?_⟩ hk hl' hL) hk hl hg
  exact thing_spec G F.sub hk16 hdep fun S' s' v x hT => ⟨S', x, hT⟩
end

theorem ints_at {vs : List Value} {ks : List Nat} {i : Nat} {v : Value} (hi : IntsAre vs (toZ ks)) (hv : vs[i]? = some v) : ∃ t, v = .int (ks.getD i 0) t ∧ i < ks.length := by
  induction ks generalizing vs i with
  | nil => rw [IntsAre.nil_inv hi] at hv; simp at hv
  | cons k ks ih =>
    obtain ⟨t, vs', rfl, hi'⟩ := IntsAre.cons_inv hi
    cases i with
    | zero => simp at hv; exact ⟨t, by rw [← hv]; simp, by simp⟩
    | succ i =>
      obtain ⟨t', e, h⟩ := ih hi' (i := i) (by simpa using hv)
      exact ⟨t', by simpa using e, by simp; omega⟩

/-- a row that the law walks over -/
structure RowOk (S : Heap) (r : Addr) (ks : List Nat) : Prop where
  row : Row S r ks
  lt : ∀ k ∈ ks, k < 16
  len : ks.length ≤ 40
  ne : 0 < ks.length
theorem RowOk.mono {S S' : Heap} {r : Addr} {ks : List Nat} (x : RowOk S r ks) (h : Sub S S') : RowOk S' r ks := ⟨x.row.mono h, x.lt, x.len, x.ne⟩
theorem RowOk.lt_at {S : Heap} {r : Addr} {ks : List Nat} (x : RowOk S r ks) {i : Nat} (h : i < ks.length) : ks.getD i 0 < 16 := by
  rw [List.getD_eq_getElem?_getD, List.getElem?_eq_getElem h]
  exact x.lt _ (List.getElem_mem h)

theorem ths_of {S : Heap} {ys : List Value} {ks : List Nat} {vs : List Value} (hy : ys.length = vs.length) (hv : vs.length = ks.length) (h : ∀ j y, ys[j]? = some y → TAt S y (ks.getD j 0)) : Ths S ys ks := by
  refine ⟨by omega, fun i v k h1 h2 => ?_⟩
  have := h i v h1
  rw [List.getD_eq_getElem?_getD, h2] at this
  exact this

section
variable {prog : Program} {w : World} {A : Around} {E : Value → Shared → Prop} {s : Shared} {S₀ : Heap} {s₀ : Shared} {B S : Heap} {L fa : Addr} {cd : Value} {m : Str → Option Value}

set_option maxHeartbeats 1000000 in
theorem st_things {r : Addr} {ks : List Nat} {v₂ : Option Value} {Q : Flow → Shared → Prop} (G : Gnd S) (F : Frm S₀ s₀ B S L s m) (hr : B.IsCell (L + 1) (some (.ref r))) (R : RowOk S r ks) (hc₂ : s.heap.IsCell (L + 1 + 1) v₂) (O₂ : Own S₀ B S L (L + 1 + 1))
    (hh : A.handled = none) (hdep : A.depth < recursionLimit)
    (h : ∀ S' s' D vs, Frm S₀ s₀ B S' L s' m → Sub S S' → Own S₀ B S' L (L + 1 + 1) → s'.heap.IsCell (L + 1 + 1) (some (.ref D)) → (∀ b o, b ≠ L + 1 + 1 → s.heap.get? b = some o → s'.heap.get? b = some o) → (∀ b o, s.heap.get? b = some o → S'.get? b = S.get? b) → S'.PlainList D vs.toArray → Ths S' vs ks → Q .next s') :
    wpAny (model prog w) A (exec (rowStmt 0) (lawEnv L fa cd)) Q E s := by
  obtain ⟨ws, hpl, hi⟩ := R.row
  have hwk : ws.length = ks.length := by rw [hi.length]; simp
  refine wpAny_Assign_Name ?_
  refine ListComp_go [] ?_
  refine ldCl cell_row (hr.keeps F.keep) ?_
  refine comp_none (fun i y S' => TAt S' y (ks.getD i 0)) hh F.sub hpl.isList (by have := R.len; omega) (fun j y S₁ S₂ h1 h2 => h1.mono h2) (fun C i v S₁ s₁ m₁ E' hv hSS F₁ hm => ?_) fun D S' s' ys x hD hy hP => ?_
  · obtain ⟨t, rfl, hlt⟩ := ints_at hi hv
    exact thing_turn (G.mono hSS) F₁ hm (R.lt_at hlt) hdep
  · have F' := F.after x
    obtain ⟨o₂, ho₂, hd₂⟩ := hc₂
    have O' := O₂.after x ho₂
    refine wpAny_storeName_cell rfl rfl cell_things (c := L + 1 + 1) (v₀ := v₂) ⟨o₂, x.keep _ _ ho₂, hd₂⟩ fun h' hv' hs' => ?_
    refine h S' _ D ys (F'.upd O' hs'.extBut s'.toks) x.le O' hv' (fun b o hb e => hs'.extBut b o hb (x.keep b o e)) x.new hD (ths_of hy hwk hP)
end
end Mine

namespace Mine
open PySem.SeqAt PySem.MeetsSeq PySem.Calls

theorem dedV_at {vs : List Value} {ks : List Nat} {i : Nat} (hv : vs.length = ks.length) (h : i < (fpl (kinds ks)).length) : ∃ y, (dedV vs ks)[i]? = some y ∧ vs[(fpl (kinds ks)).getD i 0]? = some y ∧ (fpl (kinds ks)).getD i 0 < ks.length := by
  have hm : (fpl (kinds ks)).getD i 0 ∈ fpl (kinds ks) := by
    rw [List.getD_eq_getElem?_getD, List.getElem?_eq_getElem h]; exact List.getElem_mem h
  have hlt : (fpl (kinds ks)).getD i 0 < ks.length := by
    have := fpl_lt hm
    simpa [kinds] using this
  refine ⟨vs.getD ((fpl (kinds ks)).getD i 0) .none, ?_, ?_, hlt⟩
  · unfold dedV
    rw [List.getElem?_map, List.getElem?_eq_getElem h, List.getD_eq_getElem?_getD (l := fpl (kinds ks)), List.getElem?_eq_getElem h]; rfl
  · rw [List.getD_eq_getElem?_getD (l := vs), List.getElem?_eq_getElem (by rw [hv]; exact hlt)]; rfl

theorem list_of_at {ys zs : List Value} (hl : ys.length = zs.length) (h : ∀ (j : Nat) y, ys[j]? = some y → zs[j]? = some y) : ys = zs := by
  refine List.ext_getElem? fun i => ?_
  by_cases hi : i < ys.length
  · rw [List.getElem?_eq_getElem hi, h i _ (List.getElem?_eq_getElem hi)]
  · rw [List.getElem?_eq_none (by omega), List.getElem?_eq_none (by omega)]

section
variable {prog : Program} {w : World} {A : Around} {E : Value → Shared → Prop} {s : Shared} {S₀ : Heap} {s₀ : Shared} {B S : Heap} {L fa : Addr} {cd : Value} {m : Str → Option Value}

theorem st_kept {D : Addr} {vs : List Value} {Q : Flow → Shared → Prop} (F : Frm S₀ s₀ B S L s m) (hD : B.IsCell (L + 1 + 1) (some (.ref D))) (hl : S.PlainList D vs.toArray) (hlen : vs.length ≤ 100)
    (h : ∀ S' s' K, Frm S₀ s₀ B S' L s' (upd m xKept (.ref K)) → Sub S S' → S'.PlainList K vs.toArray → Q .next s') :
    wpAny (model prog w) A (exec (rowStmt 1) (lawEnv L fa cd)) Q E s := by
  refine wpAny_Assign_Name ?_
  refine wpAny_Subscript_list_slice ?_
  refine ldCl cell_things (hD.keeps F.keep) ?_
  rw [evalPart_none]
  refine wpAny_pure ?_
  refine wpAny_pure ?_
  refine ⟨D, vs.toArray, none, none, rfl, isList_sub hl.isList F.sub, by simp only [List.size_toArray]; unfold sizeLine; omega, .none, .none, ?_⟩
  rw [slicePick_all]
  obtain ⟨S', x, hg⟩ := ext_push2 (o₁ := { cls := .type "slice", data := .fields #[.none, .none, .none] }) (o₂ := { cls := .type "list", data := .seq vs.toArray }) F.sub rfl
  refine stL (F.after x) fun h' F' hk' => ?_
  exact h S' _ _ F' x.le ⟨_, hg⟩

set_option maxHeartbeats 1000000 in
theorem st_due {D r : Addr} {vs : List Value} {ks : List Nat} {Q : Flow → Shared → Prop} (G : Gnd S) (F : Frm S₀ s₀ B S L s m) (hr : B.IsCell (L + 1) (some (.ref r))) (R : RowOk S r ks) (hD : B.IsCell (L + 1 + 1) (some (.ref D))) (hl : S.PlainList D vs.toArray) (ht : Ths S vs ks)
    (hh : A.handled = none) (hdep : A.depth + 1 < recursionLimit)
    (h : ∀ S' s' U, Frm S₀ s₀ B S' L s' (upd m xDue (.ref U)) → Sub S S' → S'.PlainList U (dedV vs ks).toArray → Q .next s') :
    wpAny (model prog w) A (exec (rowStmt 2) (lawEnv L fa cd)) Q E s := by
  have hlen := R.len
  refine AssignComp_go [(xThings, L + 1 + 1)] ?_
  refine eval_call1 G F.sub (a := 64) rfl rfl (ldCl cell_row (hr.keeps F.keep) ⟨F.sub, ?_⟩)
  refine firsts_spec G F.sub R.row R.lt (by omega) hh hdep fun S₁ s₁ a x₁ ra => ?_
  have F₁ := F.after x₁
  obtain ⟨ws, hpl, hi⟩ := ra
  have hwl : ws.length = (fpl (kinds ks)).length := by rw [hi.length]; simp
  have hfl : (fpl (kinds ks)).length ≤ ks.length := by have := fpl_len (kinds ks); simpa [kinds] using this
  refine comp_use F₁ (fun i y _ => (dedV vs ks)[i]? = some y) hh hpl.isList (by omega) (fun j y S₁ S₂ h1 h2 => h1) (fun C i v S₂ s₂ m₂ E' hv hSS F₂ hm => ?_) fun U S' s' ys F' hSS hU hy hP => ?_
  · obtain ⟨t, rfl, hlt⟩ := ints_at hi hv
    obtain ⟨y, e1, e2, e3⟩ := dedV_at ht.1 hlt
    refine Subscript_ ?_
    refine ldCl (c := L + 1 + 1) rfl ((hD.keeps F₁.keep).keeps F₂.keep) ?_
    refine ldL F₂ hm ?_
    refine item_list (k := (fpl (kinds ks)).getD i 0) (v := y) (isList_sub hl.isList fun b o e => F₂.sub b o (hSS b o (x₁.le b o e))) (by omega) (by simpa using e2) ⟨S₂, Ext.refl F₂.sub, e1⟩
  · have e : ys = dedV vs ks := list_of_at (by rw [hy, hwl]; simp [dedV]) hP
    rw [e] at hU
    exact h S' s' U F' (fun b o e => hSS b o (x₁.le b o e)) hU

theorem st_told {D : Addr} {vs : List Value} {ks : List Nat} {Q : Flow → Shared → Prop} (G : Gnd S) (F : Frm S₀ s₀ B S L s m) (hD : B.IsCell (L + 1 + 1) (some (.ref D))) (hl : S.PlainList D vs.toArray) (ht : Ths S vs ks) (hlen : vs.length ≤ 100)
    (hh : A.handled = none) (hdep : A.depth < recursionLimit) (hu : A.units + 20 < cLine)
    (h : ∀ S' s' T, Frm S₀ s₀ B S' L s' (upd m xTold (.ref T)) → Sub S S' → S'.PlainList T (dedV vs ks).toArray → Q .next s') :
    wpAny (model prog w) A (exec (rowStmt 3) (lawEnv L fa cd)) Q E s := by
  refine wpAny_Assign_Name ?_
  refine eval_call1 G F.sub (a := 29) rfl rfl (ldCl cell_things (hD.keeps F.keep) ⟨F.sub, ?_⟩)
  refine unh_spec G F.sub hl ht (by omega) (fun _ => stop_none hh) hdep hu fun S' s' a x hp => ?_
  refine stL (F.after x) fun h' F' hk' => ?_
  exact h S' _ a F' x.le hp

theorem st_check {U T : Addr} {vs : List Value} {ks : List Nat} {Q : Flow → Shared → Prop} (G : Gnd S) (F : Frm S₀ s₀ B S L s m) (hmT : m xTold = some (.ref T)) (hmU : m xDue = some (.ref U)) (hT : S.PlainList T (dedV vs ks).toArray) (hU : S.PlainList U (dedV vs ks).toArray) (ht : Ths S vs ks) (hlen : vs.length ≤ 100)
    (hh : A.handled = none) (hdep : A.depth < recursionLimit) (hu : A.units + 20 < cLine)
    (h : ∀ s', Frm S₀ s₀ B S L s' m → Q .next s') :
    wpAny (model prog w) A (exec (rowStmt 4) (lawEnv L fa cd)) Q E s := by
  have hdl := dedV_len vs ks
  have hkl := ht.1
  refine wpAny_If ?_
  refine wpAny_isTrue_BoolOp ?_
  refine wpAny_allTrue_Or_cons ?_
  refine wpAny_isTrue_Compare1 ?_
  refine type_call G F.sub ?_
  refine ldL F hmT ?_
  refine ⟨"list", (isList_sub hT.isList F.sub).typeIs, rfl, ?_⟩
  refine ldB G F.sub (v := .type "list") rfl ?_
  refine isNot_type ?_
  refine wpAny_truthy_bool ?_
  rw [if_neg (by decide)]
  refine wpAny_allTrue_Or_cons ?_
  refine wpAny_isTrue_Not ?_
  refine wpAny_isTrue_value ?_
  refine eval_call2 G F.sub (a := 71) rfl rfl (ldL F hmT (ldL F hmU ⟨F.sub, ?_⟩))
  refine same_spec G F.sub hT.isList hU.isList (ths_ded ht) (by omega) hh hdep hu fun s' x => ?_
  refine wpAny_truthy_bool ?_
  rw [if_neg (by decide)]
  refine wpAny_allTrue_Or_nil ?_
  rw [if_neg (by decide)]
  exact wpAny_execs_nil (h s' (F.after x))
end
end Mine

namespace Mine
open PySem.SeqAt PySem.MeetsSeq PySem.Calls

theorem ents_keys (w : World) (vs : List Value) (ks : List Nat) : (entsAt w vs ks ks.length).toList.map (·.key) = dedV vs ks := by
  unfold entsAt dedV
  simp [Function.comp_def]
theorem ents_vals (w : World) (vs : List Value) (ks : List Nat) : (entsAt w vs ks ks.length).toList.map (·.val) = List.replicate (dedV vs ks).length .none := by
  have : (dedV vs ks).length = (entsAt w vs ks ks.length).toList.length := by rw [← ents_keys w vs ks, List.length_map]
  rw [this, List.eq_replicate_iff]
  refine ⟨by simp, fun b hb => ?_⟩
  obtain ⟨e, he, rfl⟩ := List.mem_map.mp hb
  exact entsAt_val e (Array.mem_toList_iff.mp he)

section
variable {prog : Program} {w : World} {A : Around} {E : Value → Shared → Prop} {s : Shared} {S₀ : Heap} {s₀ : Shared} {B S : Heap} {L fa : Addr} {cd : Value} {m : Str → Option Value}

theorem law_frs (F : Frm S₀ s₀ B S L s m) : FrsOk s.heap [lawEnv L fa cd] := fun env he => by
  rw [List.mem_singleton.mp he]
  obtain ⟨o, es, n, ho, hd, _⟩ := F.ns
  exact ⟨(by decide : ScopeKind.function ≠ ScopeKind.module), L, o, es, n, rfl, ho, hd⟩
theorem law_off (F : Frm S₀ s₀ B S L s m) : ∀ b ∈ frs [lawEnv L fa cd], S.get? b = none := fun b hb => by
  have : b = L := List.mem_singleton.mp hb
  rw [this]; exact F.off

/-- max(row) > 9 -/
theorem test_max {r : Addr} {ks : List Nat} {p₁ p₂ p₃ p₄ p₅ : Pos} {c : Nat} {whole : Sem Value} {Q : Bool → Shared → Prop} (G : Gnd S) (F : Frm S₀ s₀ B S L s m) (hr : B.IsCell (L + 1) (some (.ref r))) (R : RowOk S r ks) (hh : A.handled = none)
    (h : ∀ s' b, Frm S₀ s₀ B S L s' m → (b = true → ∃ p, p < ks.length ∧ 10 ≤ ks.getD p 0) → (b = false → ∀ p, p < ks.length → ks.getD p 0 < 10) → Q b s') :
    wpAny (model prog w) A (PySem.isTrue (.Compare (.Call (.Name (Str.ofString "max") p₁) [.Name xRow p₂] [] p₃) [.Gt] [.Constant (.int 9) c p₄] p₅) (lawEnv L fa cd) whole) Q E s := by
  obtain ⟨ws, hpl, hi⟩ := R.row
  refine wpAny_isTrue_Compare1 ?_
  refine Call_ ?_
  refine ldB G F.sub (v := .builtin "max") rfl ?_
  refine PyProof.Rows.callWith_builtin1 ?_
  refine spliced_more (ldCl cell_row (hr.keeps F.keep) (spliced_none ?_))
  refine max_row hh F.sub hpl.isList hi (by simpa using R.ne) fun s' M t x hM hle => ?_
  have F' := F.after x
  refine wpAny_Constant_int ?_
  refine PyProof.Rows.gt_int ?_
  refine wpAny_truthy_bool ?_
  refine h _ _ (F'.toks _) (fun hb => ?_) (fun hb p hp => ?_)
  · have h9 : (9 : Int) < M := by simpa using hb
    obtain ⟨k, hk, rfl⟩ := List.mem_map.mp hM
    obtain ⟨p, hp, hpk⟩ := List.getElem_of_mem hk
    refine ⟨p, hp, ?_⟩
    rw [List.getD_eq_getElem?_getD, List.getElem?_eq_getElem hp, hpk]
    show 10 ≤ k
    have : (9 : Int) < (k : Int) := h9
    omega
  · have h9 : ¬ ((9 : Int) < M) := by simpa using hb
    have hm : ((ks.getD p 0 : Nat) : Int) ∈ toZ ks := by
      refine List.mem_map.mpr ⟨ks.getD p 0, ?_, rfl⟩
      rw [List.getD_eq_getElem?_getD, List.getElem?_eq_getElem hp]; exact List.getElem_mem hp
    have := hle _ hm
    omega

set_option maxHeartbeats 2000000 in
theorem st_max {D r U : Addr} {vs : List Value} {ks : List Nat} {Q : Flow → Shared → Prop} (G : Gnd S) (F : Frm S₀ s₀ B S L s m) (hr : B.IsCell (L + 1) (some (.ref r))) (R : RowOk S r ks) (hD : B.IsCell (L + 1 + 1) (some (.ref D))) (hl : S.PlainList D vs.toArray) (ht : Ths S vs ks)
    (hmU : m xDue = some (.ref U)) (hU : S.PlainList U (dedV vs ks).toArray)
    (hh : A.handled = none) (hA : A.frames = some [lawEnv L fa cd]) (hdep : A.depth + 5 < recursionLimit) (hu : A.units + 200 < cLine)
    (h : ∀ S' s' m', Frm S₀ s₀ B S' L s' m' → Sub S S' → (∀ y, y ≠ xTable → m' y = m y) → Q .next s') :
    wpAny (model prog w) A (exec (rowStmt 5) (lawEnv L fa cd)) Q E s := by
  have hkl := ht.1
  have hdl := dedV_len vs ks
  have hlen := R.len
  refine wpAny_If ?_
  refine test_max G F hr R hh fun s₁ b F₁ hb1 hb0 => ?_
  cases b with
  | true =>
    obtain ⟨p, hp, h10⟩ := hb1 rfl
    rw [if_pos rfl]
    refine wpAny_execs_cons ?_
    refine wpAny_If ?_
    refine wpAny_isTrue_BoolOp ?_
    refine wpAny_allTrue_Or_cons ?_
    refine wpAny_isTrue_Not ?_
    refine wpAny_isTrue_value ?_
    refine eval_call1 G F₁.sub (a := 78) rfl rfl (ldCl cell_things (hD.keeps F₁.keep) ⟨F₁.sub, ?_⟩)
    refine refused_spec G F₁.sub hl ht hp h10 (by omega) hh hA (law_frs F₁) (law_off F₁) (by omega) (by omega) fun s₂ x₂ => ?_
    have F₂ := F₁.afterF x₂
    refine wpAny_truthy_bool ?_
    rw [if_neg (by decide)]
    refine wpAny_allTrue_Or_cons ?_
    refine wpAny_isTrue_Not ?_
    refine wpAny_isTrue_value ?_
    refine eval_call2 G F₂.sub (a := 71) rfl rfl ?_
    refine eval_call_kw G F₂.sub (a := 22) rfl rfl ?_
    refine ldCl cell_things (hD.keeps F₂.keep) ?_
    refine wpAny_Constant_bool ⟨F₂.sub, ?_⟩
    refine ded_spec (fb := true) G F₂.sub binds_kw hl ht (by omega) hh hA (law_frs F₂) (law_off F₂) (by omega) (by omega) (fun q => absurd (q p hp) (by omega)) (fun p' hp' h10' _ S₃ s₃ a x₃ _ ha => ?_) (fun _ _ _ q => by cases q)
    have F₃ := F₂.afterF x₃
    have G₃ := G.mono x₃.le
    refine ldL F₃ hmU ⟨fun b o e => F₃.sub b o (x₃.le b o e), ?_⟩
    refine same_spec G₃ F₃.sub ha.isList (plain_sub hU x₃.le).isList (ths_ded (ht.mono x₃.le)) (by omega) hh (by omega) (by omega) fun s₄ x₄ => ?_
    refine wpAny_truthy_bool ?_
    rw [if_neg (by decide)]
    refine wpAny_allTrue_Or_nil ?_
    rw [if_neg (by decide)]
    refine wpAny_execs_nil ?_
    refine wpAny_execs_nil ?_
    exact h S₃ s₄ m (F₃.after x₄) x₃.le fun _ _ => rfl
  | false =>
    have h10 := hb0 rfl
    rw [if_neg (by decide)]
    refine wpAny_execs_cons ?_
    refine wpAny_For ?_
    refine List_ ?_
    refine spliced_more ?_
    refine eval_call1 G F₁.sub (a := 22) rfl rfl (ldCl cell_things (hD.keeps F₁.keep) ⟨F₁.sub, ?_⟩)
    refine ded_spec (fb := false) G F₁.sub (binds_dflt G F₁.sub) hl ht (by omega) hh hA (law_frs F₁) (law_off F₁) (by omega) (by omega) (fun _ S₂ s₂ d₁ n₁ x₂ _ hs₁ hd₁ => ?_) (fun _ _ _ q => by cases q) (fun p hp hp10 => absurd (h10 p hp) (by omega))
    have F₂ := F₁.afterF x₂
    have G₂ := G.mono x₂.le
    refine spliced_more ?_
    refine eval_call_kw G₂ F₂.sub (a := 22) rfl rfl ?_
    refine ldCl cell_things (hD.keeps F₂.keep) ?_
    refine wpAny_Constant_bool ⟨F₂.sub, ?_⟩
    refine ded_spec (fb := true) G₂ F₂.sub binds_kw (plain_sub hl x₂.le) (ht.mono x₂.le) (by omega) hh hA (law_frs F₂) (law_off F₂) (by omega) (by omega) (fun _ S₃ s₃ d₂ n₂ x₃ _ hs₂ hd₂ => ?_) (fun p hp hp10 => absurd (h10 p hp) (by omega)) (fun p hp hp10 => absurd (h10 p hp) (by omega))
    have F₃ := F₂.afterF x₃
    have G₃ := G₂.mono x₃.le
    have le₃ : Sub S S₃ := fun b o e => x₃.le b o (x₂.le b o e)
    refine spliced_none ?_
    refine wpAny_newObj_type ?_
    have hn := push_none s₃.heap
    have F₄ := F₃.grow (h' := s₃.heap.push { cls := .type "list", data := .seq [Value.ref d₁, Value.ref d₂].toArray }) (fun _ _ e => Heap.get?_push_of_some _ e) s₃.toks
    obtain ⟨S₄, F₅, hle₄, hg₄, _⟩ := F₄.take (F₃.fresh hn) (Heap.get?_push_size _ rfl)
    have lists : S₄.IsList s₃.heap.objs.size #[Value.ref d₁, Value.ref d₂] := ⟨_, hg₄, rfl, _, rfl⟩
    refine for_list F₅ (stop_none hh) lists [] (fun i S' h' m' => ∀ y, y ≠ xTable → m' y = m y) (fun _ _ => rfl) (fun i S' h' h'' m' hj _ => hj) (fun a ha => by cases ha) ?_ ?_
    · intro i B₁ S₅ s₆ m₁ v hv hSS F₆ hJ _
      have le₅ : Sub S S₅ := fun b o e => hSS b o (hle₄ b o (le₃ b o e))
      have G₅ := G.mono le₅
      obtain ⟨d, n, rfl, hsd, hd⟩ : ∃ d n, v = .ref d ∧ (d == sysModules) = false ∧ S₅.get? d = some (dO (entsAt w vs ks ks.length) n) := by
        match i, hv with
        | 0, hv => exact ⟨d₁, n₁, by simpa using hv.symm, hs₁, hSS _ _ (hle₄ _ _ (x₃.le _ _ hd₁))⟩
        | 1, hv => exact ⟨d₂, n₂, by simpa using hv.symm, hs₂, hSS _ _ (hle₄ _ _ hd₂)⟩
        | i + 2, hv => simp at hv
      have hmU' : upd m₁ xTable (.ref d) xDue = some (.ref U) := (hJ xDue (by decide)).trans hmU
      have esz : (entsAt w vs ks ks.length).size ≤ 1000 := by have := entsAt_size w vs ks ks.length; omega
      refine wpAny_execs_cons ?_
      refine wpAny_If ?_
      refine wpAny_isTrue_BoolOp ?_
      refine wpAny_allTrue_Or_cons ?_
      refine wpAny_isTrue_Compare1 ?_
      refine type_call G₅ F₆.sub ?_
      refine ldL F₆ (v := .ref d) rfl ?_
      refine ⟨"dict", ⟨_, F₆.sub _ _ hd, rfl⟩, rfl, ?_⟩
      refine ldB G₅ F₆.sub (v := .type "dict") rfl ?_
      refine isNot_type ?_
      refine wpAny_truthy_bool ?_
      rw [if_neg (by decide)]
      refine wpAny_allTrue_Or_cons ?_
      refine wpAny_isTrue_Not ?_
      refine wpAny_isTrue_value ?_
      refine eval_call2 G₅ F₆.sub (a := 71) rfl rfl ?_
      refine Call_ ?_
      refine ldB G₅ F₆.sub (v := .type "list") rfl ?_
      refine PyProof.Rows.callWith_type1 (spliced_more (ldL F₆ (v := .ref d) rfl (spliced_none ?_)))
      refine list_of_dict hsd hh F₆.sub hd esz fun S₇ s₇ K x₇ hK => ?_
      rw [ents_keys] at hK
      have F₇ := F₆.after x₇
      have le₇ : Sub S S₇ := fun b o e => x₇.le b o (le₅ b o e)
      refine ldL F₇ hmU' ⟨fun b o e => F₇.sub b o (x₇.le b o e), ?_⟩
      refine same_spec (G.mono le₇) F₇.sub hK.isList (plain_sub hU le₇).isList (ths_ded (ht.mono le₇)) (by omega) hh (by omega) (by omega) fun s₈ x₈ => ?_
      have F₈ := F₇.after x₈
      refine wpAny_truthy_bool ?_
      rw [if_neg (by decide)]
      refine wpAny_allTrue_Or_cons ?_
      refine wpAny_isTrue_Compare1 ?_
      refine Call_ ?_
      refine ldB (G.mono le₇) F₈.sub (v := .type "list") rfl ?_
      refine PyProof.Rows.callWith_type1 (spliced_more ?_)
      have hd₇ := x₇.le _ _ hd
      refine MethodCall_ (ldL F₈ (v := .ref d) rfl ?_)
      refine getMethod_builtin ⟨_, F₈.sub _ _ hd₇, rfl⟩ PySem.F.plainAttrs_dict PySem.F.slot_dict_values PySem.F.type_dict_values (fun a e => by cases e; exact ⟨_, F₈.sub _ _ hd₇, rfl⟩) ?_
      refine callWith_method0 ?_
      refine values_call hsd (F₈.sub _ _ hd₇) fun h₉ rv hk₉ hrv => ?_
      have F₉ := F₈.grow hk₉ s₈.toks
      refine spliced_none ?_
      refine list_of_vals hh F₉.sub hrv hd₇ esz fun S₁₀ s₁₀ V x₁₀ hV => ?_
      rw [ents_vals] at hV
      have F₁₀ := F₉.after x₁₀
      have le₁₀ : Sub S S₁₀ := fun b o e => x₁₀.le b o (le₇ b o e)
      refine ListComp_go [] ?_
      refine ldL F₁₀ hmU' ?_
      refine comp_none (fun i y _ => y = .none) hh F₁₀.sub (plain_sub hU le₁₀).isList (by omega) (fun _ _ _ _ h1 _ => h1) (fun C i v S₁ s₁ m₁ E' hv hSS F₁ hm => wpAny_Constant_none ⟨S₁, Ext.refl F₁.sub, rfl⟩) fun W S₁₁ s₁₁ ys x₁₁ hW hy hP => ?_
      have F₁₁ := F₁₀.after x₁₁
      have ey : ys = List.replicate (dedV vs ks).length .none := by
        rw [List.eq_replicate_iff]
        refine ⟨hy, fun b hb => ?_⟩
        obtain ⟨i, hi⟩ := List.getElem?_of_mem hb
        exact hP i b hi
      rw [ey] at hW
      refine ne_nones (isList_sub hV.isList fun b o e => F₁₁.sub b o (x₁₁.le b o e)) (isList_sub hW.isList F₁₁.sub) (by omega) ?_
      refine wpAny_truthy_bool ?_
      rw [if_neg (by decide)]
      refine wpAny_allTrue_Or_nil ?_
      rw [if_neg (by decide)]
      refine wpAny_execs_nil ?_
      refine wpAny_execs_nil ?_
      refine ⟨S₁₁, _, fun b o e => x₁₁.le b o (x₁₀.le b o (x₇.le b o e)), F₁₁, fun y hy' => ?_, fun a ha => by cases ha⟩
      rw [upd_ne _ _ hy']; exact hJ y hy'
    · intro S₅ s₆ m₁ hSS F₆ hJ _
      refine wpAny_execs_nil ?_
      exact h S₅ s₆ m₁ F₆ (fun b o e => hSS b o (hle₄ b o (le₃ b o e))) hJ
end
end Mine

namespace Mine
open PySem.SeqAt PySem.MeetsSeq PySem.Calls

theorem toZ_back (ks : List Nat) : (toZ ks).map Int.toNat = ks := by simp [toZ, List.map_map, Function.comp_def]
theorem alike_is {a b : List Nat} {na nb : List Int} (pa : na.Perm (toZ a)) (pb : nb.Perm (toZ b)) (sa : na.Pairwise (· ≤ ·)) (sb : nb.Pairwise (· ≤ ·)) : decide (na = nb) = a.isPerm b := by
  rw [Bool.eq_iff_iff, decide_eq_true_iff, List.isPerm_iff]
  constructor
  · rintro rfl
    have := (pa.symm.trans pb).map Int.toNat
    rwa [toZ_back, toZ_back] at this
  · intro h
    exact List.Perm.eq_of_pairwise (fun x y _ _ h1 h2 => Int.le_antisymm h1 h2) sa sb (pa.trans ((h.map _).trans pb.symm))

theorem ints_of_at : ∀ {ys : List Value} {ns : List Nat}, ys.length = ns.length → (∀ (j : Nat) y, ys[j]? = some y → ∃ t, y = .int (ns.getD j 0) t) → IntsAre ys (toZ ns)
  | [], [], _, _ => .nil
  | y :: ys, n :: ns, hl, h => by
    obtain ⟨t, e⟩ := h 0 y rfl
    rw [e]
    refine .cons _ t (ints_of_at (by simpa using hl) fun j z hz => ?_)
    have := h (j + 1) z (by simpa using hz)
    simpa using this
theorem dk_at {ks : List Nat} {i : Nat} (h : i < (fpl (kinds ks)).length) : (fpl (kinds ks)).getD i 0 < ks.length ∧ (dk (kinds ks)).getD i 0 = kindT (ks.getD ((fpl (kinds ks)).getD i 0) 0) := by
  have hm : (fpl (kinds ks)).getD i 0 ∈ fpl (kinds ks) := by
    rw [List.getD_eq_getElem?_getD, List.getElem?_eq_getElem h]; exact List.getElem_mem h
  have hlt : (fpl (kinds ks)).getD i 0 < ks.length := by
    have := fpl_lt hm
    simpa [kinds] using this
  refine ⟨hlt, ?_⟩
  rw [← kinds_getD ks hlt]
  unfold dk
  rw [List.getD_eq_getElem?_getD, List.getElem?_map, List.getElem?_eq_getElem h, List.getD_eq_getElem?_getD (l := fpl (kinds ks)), List.getElem?_eq_getElem h]
  rfl

section
variable {prog : Program} {w : World} {A : Around} {E : Value → Shared → Prop} {s : Shared} {S₀ : Heap} {s₀ : Shared} {B S : Heap} {L fa : Addr} {cd : Value} {m : Str → Option Value}

/-- _law_kind(x[place]) within a comprehension -/
theorem kind_turn {S S₁ H : Heap} {C c r : Addr} {s₁ : Shared} {m₁ : Str → Option Value} {ks ws : List Nat} {i : Nat} {x : Str} {t : Tok} {p₁ p₂ p₃ p₄ p₅ : Pos} {cenv : Env} {E' : Value → Shared → Prop} (G : Gnd S₁) (F : Frm S s H S₁ C s₁ m₁) (R : RowOk S₁ r ks)
    (hc : cenv.cells.lookup x = some c) (hv : s₁.heap.IsCell c (some (.ref r))) (hm : m₁ xPlace = some (.int (ws.getD i 0) t)) (hp : ws.getD i 0 < ks.length) (hdep : A.depth < recursionLimit)
    (hk : cenv.scope.kind = .function := by rfl) (hl : cenv.kindOf (Str.ofString "_law_kind") = some .globalImplicit := by rfl) (hl' : cenv.kindOf xPlace = some .local := by rfl) (hlx : cenv.kindOf x = some .cell := by rfl) (hg : cenv.globals = mainGlobals := by rfl) (hL : cenv.locals = C := by rfl) (hd : (x == ("__debug__" : Str)) = false := by decide) :
    wpAny (model prog w) A (eval (.Call (.Name (Str.ofString "_law_kind") p₁) [.Subscript (.Name x p₂) (.Name xPlace p₃) p₄] [] p₅) cenv) (fun y s₂ => ∃ S₂, Ext S₁ s₁ S₂ s₂ ∧ ∃ t, y = .int (kindT (ks.getD (ws.getD i 0) 0)) t) E' s₁ := by
  obtain ⟨us, hpl, hi⟩ := R.row
  have hul : us.length = ks.length := by rw [hi.length]; simp
  have hlen := R.len
  refine eval_call1 G F.sub (a := 50) rfl rfl ?_ hk hl hg
  refine Subscript_ ?_
  refine ldCl hc hv ?_ hk hlx hd
  refine ldL F hm ?_ hk hl' hL
  have e1 : us[ws.getD i 0]? = some (us.getD (ws.getD i 0) .none) := by
    rw [List.getD_eq_getElem?_getD (l := us), List.getElem?_eq_getElem (by rw [hul]; exact hp)]; rfl
  obtain ⟨t', e2, _⟩ := ints_at hi e1
  rw [e2] at e1
  refine item_list (k := ws.getD i 0) (isList_sub hpl.isList F.sub) (by omega) (by simpa using e1) ⟨F.sub, ?_⟩
  exact kind_spec G F.sub (R.lt_at hp) hdep fun s' t'' x => ⟨S₁, x, t'', rfl⟩

set_option maxHeartbeats 2000000 in
theorem st_others {D r a : Addr} {vs : List Value} {ks : List Nat} {v₃ : Option Value} {RS : List (Addr × List Nat)} {Q : Flow → Shared → Prop} (G : Gnd S) (F : Frm S₀ s₀ B S L s m) (hr : B.IsCell (L + 1) (some (.ref r))) (R : RowOk S r ks) (hD : B.IsCell (L + 1 + 1) (some (.ref D))) (hl : S.PlainList D vs.toArray) (ht : Ths S vs ks)
    (hma : m xRows = some (.ref a)) (hrows : S.PlainList a (RS.map fun p => Value.ref p.1).toArray) (hRS : ∀ p ∈ RS, RowOk S p.1 p.2)
    (hc₃ : s.heap.IsCell (L + 1 + 1 + 1) v₃) (O₃ : Own S₀ B S L (L + 1 + 1 + 1))
    (hh : A.handled = none) (hA : A.frames = some [lawEnv L fa cd]) (hdep : A.depth + 5 < recursionLimit) (hu : A.units + 200 < cLine)
    (h : ∀ S' s' m', Frm S₀ s₀ B S' L s' m' → Sub S S' → (∀ y, y ≠ xOthers → y ≠ xAlike → m' y = m y) → (∃ v, s'.heap.IsCell (L + 1 + 1 + 1) v) → Own S₀ B S' L (L + 1 + 1 + 1) → Q .next s') :
    wpAny (model prog w) A (exec (rowStmt 6) (lawEnv L fa cd)) Q E s := by
  have hkl := ht.1
  have hlen := R.len
  refine wpAny_For ?_
  refine ldL F hma ?_
  refine for_list_cell F hh hrows.isList O₃ hc₃ [] (fun i S' h' m' => ∀ y, y ≠ xOthers → y ≠ xAlike → m' y = m y) (fun _ _ _ => rfl) (fun i S' h' h'' m' hj _ => hj) (fun a ha => by cases ha) ?_ ?_ cell_other
  · intro i B₁ S₁ s₁ m₁ v hv hSS hBB hco F₁ hJ _
    obtain ⟨⟨o, js⟩, hmem, rfl⟩ : ∃ p, p ∈ RS ∧ v = Value.ref p.1 := by
      have hv' : (RS.map fun p => Value.ref p.1)[i]? = some v := by simpa using hv
      rw [List.getElem?_map] at hv'
      cases e : RS[i]? with
      | none => rw [e] at hv'; cases hv'
      | some p =>
        rw [e] at hv'; simp at hv'
        exact ⟨p, List.mem_of_getElem? e, hv'.symm⟩
    have G₁ := G.mono hSS
    have Ro : RowOk S₁ o js := (hRS _ hmem).mono hSS
    have hr₁ : B₁.IsCell (L + 1) (some (.ref r)) := hr.keeps hBB
    have hD₁ : B₁.IsCell (L + 1 + 1) (some (.ref D)) := hD.keeps hBB
    have hjl := Ro.len
    -- others
    obtain ⟨ws, hpl, hi⟩ := Ro.row
    have hwk : ws.length = js.length := by rw [hi.length]; simp
    refine wpAny_execs_cons ?_
    refine AssignComp_go [] ?_
    refine ldCl cell_other (hco.keeps F₁.keep) ?_
    refine comp_use F₁ (fun i y S' => TAt S' y (js.getD i 0)) hh hpl.isList (by omega) (fun j y S₁ S₂ h1 h2 => h1.mono h2) (fun C i v S₂ s₂ m₂ E' hv hSS F₂ hm => ?_) fun W S₂ s₂ us F₂ hSS₂ hW hy hP => ?_
    · obtain ⟨t, rfl, hlt⟩ := ints_at hi hv
      exact thing_turn (G₁.mono hSS) F₂ hm (Ro.lt_at hlt) (by omega)
    have T₂ : Ths S₂ us js := ths_of hy hwk hP
    have G₂ := G₁.mono hSS₂
    have le₂ : Sub S S₂ := fun b o e => hSS₂ b o (hSS b o e)
    -- alike
    refine wpAny_execs_cons ?_
    refine wpAny_Assign_Name ?_
    refine wpAny_Compare1 ?_
    refine Call_ ?_
    refine ldB G₂ F₂.sub (v := .builtin "sorted") rfl ?_
    refine PyProof.Rows.callWith_builtin1 ?_
    refine spliced_more ?_
    refine ListComp_go [(xRow, L + 1)] ?_
    have R₂ := R.mono le₂
    refine eval_call1 G₂ F₂.sub (a := 64) rfl rfl (ldCl cell_row (hr₁.keeps F₂.keep) ⟨F₂.sub, ?_⟩)
    refine firsts_spec G₂ F₂.sub R₂.row R₂.lt (by omega) hh (by omega) fun S₃ s₃ b₃ x₃ rb => ?_
    have F₃ := F₂.after x₃
    obtain ⟨ws₃, hpl₃, hi₃⟩ := rb
    have hfl : (fpl (kinds ks)).length ≤ ks.length := by have := fpl_len (kinds ks); simpa [kinds] using this
    have hfl' : (fpl (kinds js)).length ≤ js.length := by have := fpl_len (kinds js); simpa [kinds] using this
    have hw₃ : ws₃.length = (fpl (kinds ks)).length := by rw [hi₃.length]; simp
    refine comp_none (fun i y _ => ∃ t, y = .int ((dk (kinds ks)).getD i 0) t) hh F₃.sub hpl₃.isList (by omega) (fun _ _ _ _ h1 _ => h1) (fun C i v S₄ s₄ m₄ E' hv hSS₄ F₄ hm => ?_) fun K₄ S₄ s₄ ys₄ x₄ hK₄ hy₄ hP₄ => ?_
    · obtain ⟨t, rfl, hlt⟩ := ints_at hi₃ hv
      obtain ⟨e1, e2⟩ := dk_at hlt
      rw [e2]
      exact kind_turn (x := xRow) (c := L + 1) (G₂.mono fun b o e => hSS₄ b o (x₃.le b o e)) F₄ (R₂.mono fun b o e => hSS₄ b o (x₃.le b o e)) rfl ((hr₁.keeps F₃.keep).keeps F₄.keep) hm e1 (by omega)
    have F₄ := F₃.after x₄
    have I₄ : IntsAre ys₄ (toZ (dk (kinds ks))) := ints_of_at (by rw [hy₄, hw₃]; simp [dk]) hP₄
    refine spliced_none ?_
    refine sorted_row F₄.sub hK₄.isList I₄ (by rw [hy₄, hw₃]; omega) fun S₅ s₅ D₅ out₅ n₅ x₅ hD₅ I₅ P₅ W₅ => ?_
    have F₅ := F₄.after x₅
    have le₅ : Sub S₂ S₅ := fun b o e => x₅.le b o (x₄.le b o (x₃.le b o e))
    have G₅ := G₂.mono le₅
    refine Call_ ?_
    refine ldB G₅ F₅.sub (v := .builtin "sorted") rfl ?_
    refine PyProof.Rows.callWith_builtin1 ?_
    refine spliced_more ?_
    refine ListComp_go [(xOther, L + 1 + 1 + 1)] ?_
    have R₅ : RowOk S₅ o js := (Ro.mono hSS₂).mono le₅
    refine eval_call1 G₅ F₅.sub (a := 64) rfl rfl (ldCl cell_other (hco.keeps F₅.keep) ⟨F₅.sub, ?_⟩)
    refine firsts_spec G₅ F₅.sub R₅.row R₅.lt (by omega) hh (by omega) fun S₆ s₆ b₆ x₆ rb => ?_
    have F₆ := F₅.after x₆
    obtain ⟨ws₆, hpl₆, hi₆⟩ := rb
    have hw₆ : ws₆.length = (fpl (kinds js)).length := by rw [hi₆.length]; simp
    refine comp_none (fun i y _ => ∃ t, y = .int ((dk (kinds js)).getD i 0) t) hh F₆.sub hpl₆.isList (by omega) (fun _ _ _ _ h1 _ => h1) (fun C i v S₇ s₇ m₇ E' hv hSS₇ F₇ hm => ?_) fun K₇ S₇ s₇ ys₇ x₇ hK₇ hy₇ hP₇ => ?_
    · obtain ⟨t, rfl, hlt⟩ := ints_at hi₆ hv
      obtain ⟨e1, e2⟩ := dk_at hlt
      rw [e2]
      exact kind_turn (x := xOther) (c := L + 1 + 1 + 1) (G₅.mono fun b o e => hSS₇ b o (x₆.le b o e)) F₇ (R₅.mono fun b o e => hSS₇ b o (x₆.le b o e)) rfl ((hco.keeps F₆.keep).keeps F₇.keep) hm e1 (by omega)
    have F₇ := F₆.after x₇
    have I₇ : IntsAre ys₇ (toZ (dk (kinds js))) := ints_of_at (by rw [hy₇, hw₆]; simp [dk]) hP₇
    refine spliced_none ?_
    refine sorted_row F₇.sub hK₇.isList I₇ (by rw [hy₇, hw₆]; omega) fun S₈ s₈ D₈ out₈ n₈ x₈ hD₈ I₈ P₈ W₈ => ?_
    have F₈ := F₇.after x₈
    have le₈ : Sub S₅ S₈ := fun b o e => x₈.le b o (x₇.le b o (x₆.le b o e))
    refine ke_eq_ints (isList_sub hD₅ fun b o e => F₈.sub b o (le₈ b o e)) (isList_sub hD₈ F₈.sub) I₅ I₈ (by omega) ?_
    rw [alike_is P₅ P₈ W₅ W₈]
    refine stL F₈ fun h₉ F₉ hk₉ => ?_
    have le₉ : Sub S₂ S₈ := fun b o e => le₈ b o (le₅ b o e)
    have le : Sub S S₈ := fun b o e => le₉ b o (le₂ b o e)
    have G₈ := G.mono le
    -- the comparison
    refine wpAny_execs_cons ?_
    refine wpAny_If ?_
    refine wpAny_isTrue_Compare1 ?_
    refine eval_call2 G₈ F₉.sub (a := 36) rfl rfl (ldCl cell_things (hD₁.keeps F₉.keep) (ldL F₉ (v := .ref W) rfl ⟨F₉.sub, ?_⟩))
    refine compare_spec G₈ F₉.sub (plain_sub hl le) (ht.mono le) (plain_sub hW le₉) (T₂.mono le₉) (by omega) (by have := T₂.1; omega) hh hA (law_frs F₉) (law_off F₉) (by omega) (by omega) fun s₁₀ x₁₀ => ?_
    have F₁₀ := F₉.afterF x₁₀
    refine ldL F₁₀ (v := .bool _) rfl ?_
    refine isNot_bools ?_
    refine wpAny_truthy_bool ?_
    rw [if_neg (by simp)]
    refine wpAny_execs_nil ?_
    refine wpAny_execs_nil ?_
    refine ⟨S₈, _, fun b o e => le₉ b o (hSS₂ b o e), F₁₀, fun y h1 h2 => ?_, fun a ha => by cases ha⟩
    rw [upd_ne _ _ h2, upd_ne _ _ h1]; exact hJ y h1 h2
  · intro S₁ s₁ m₁ hSS F₁ hex O₁ hJ _
    exact h S₁ s₁ m₁ F₁ hSS hJ hex O₁
end
end Mine

namespace Mine
open PySem.SeqAt PySem.MeetsSeq PySem.Calls

section
variable {prog : Program} {w : World} {A : Around} {E : Value → Shared → Prop} {s : Shared} {S₀ : Heap} {s₀ : Shared} {B S : Heap} {L fa : Addr} {cd : Value} {m : Str → Option Value}

theorem st_last {D K : Addr} {vs : List Value} {ks : List Nat} {Q : Flow → Shared → Prop} (G : Gnd S) (F : Frm S₀ s₀ B S L s m) (hD : B.IsCell (L + 1 + 1) (some (.ref D))) (hmK : m xKept = some (.ref K)) (hl : S.PlainList D vs.toArray) (hK : S.PlainList K vs.toArray) (ht : Ths S vs ks) (hlen : vs.length ≤ 100)
    (hh : A.handled = none) (hdep : A.depth < recursionLimit) (hu : A.units + 20 < cLine)
    (h : ∀ s', Ext S s S s' → Q .next s') :
    wpAny (model prog w) A (exec (rowStmt 7) (lawEnv L fa cd)) Q E s := by
  refine wpAny_If ?_
  refine wpAny_isTrue_Not ?_
  refine wpAny_isTrue_value ?_
  refine eval_call2 G F.sub (a := 71) rfl rfl (ldCl cell_things (hD.keeps F.keep) (ldL F hmK ⟨F.sub, ?_⟩))
  refine same_spec G F.sub hl.isList hK.isList ht (by omega) hh hdep hu fun s' x => ?_
  refine wpAny_truthy_bool ?_
  rw [if_neg (by decide)]
  exact wpAny_execs_nil (h s' x)

set_option maxHeartbeats 2000000 in
theorem row_body {r a : Addr} {ks : List Nat} {v₂ v₃ : Option Value} {RS : List (Addr × List Nat)} {Q : Flow → Shared → Prop} (G : Gnd S) (F : Frm S₀ s₀ B S L s m) (hr : B.IsCell (L + 1) (some (.ref r))) (R : RowOk S r ks)
    (hma : m xRows = some (.ref a)) (hrows : S.PlainList a (RS.map fun p => Value.ref p.1).toArray) (hRS : ∀ p ∈ RS, RowOk S p.1 p.2)
    (hc₂ : s.heap.IsCell (L + 1 + 1) v₂) (O₂ : Own S₀ B S L (L + 1 + 1)) (hc₃ : s.heap.IsCell (L + 1 + 1 + 1) v₃) (O₃ : Own S₀ B S L (L + 1 + 1 + 1))
    (hh : A.handled = none) (hA : A.frames = some [lawEnv L fa cd]) (hdep : A.depth + 5 < recursionLimit) (hu : A.units + 200 < cLine)
    (h : ∀ S' s' m', Frm S₀ s₀ B S' L s' m' → Sub S S' → m' xRows = some (.ref a) → (∃ v, s'.heap.IsCell (L + 1 + 1) v) → Own S₀ B S' L (L + 1 + 1) → (∃ v, s'.heap.IsCell (L + 1 + 1 + 1) v) → Own S₀ B S' L (L + 1 + 1 + 1) → Q .next s') :
    wpAny (model prog w) A (execs rowBody (lawEnv L fa cd)) Q E s := by
  have hlen := R.len
  refine wpAny_execs_cons ?_
  refine st_things G F hr R hc₂ O₂ hh (by omega) fun S₁ s₁ D vs F₁ le₁ O₂' hD hkeep hnew hl ht => ?_
  have hkl := ht.1
  obtain ⟨o₃, ho₃, hd₃⟩ := hc₃
  have ne23 : L + 1 + 1 + 1 ≠ L + 1 + 1 := Nat.ne_of_gt (Nat.lt_succ_self _)
  have ho₃' := hkeep _ _ ne23 ho₃
  have O₃' : Own S₀ B S₁ L (L + 1 + 1 + 1) := ⟨O₃.offB, (hnew _ _ ho₃).trans O₃.off, O₃.off0, O₃.ne⟩
  obtain ⟨o₂, ho₂, hd₂⟩ := id hD
  obtain ⟨B₂, F₁b, bb₂, hb₂, hbo₂⟩ := F₁.hold O₂' ho₂
  have O₃b : Own S₀ B₂ S₁ L (L + 1 + 1 + 1) := ⟨(hbo₂ _ ne23).trans O₃'.offB, O₃'.off, O₃'.off0, O₃'.ne⟩
  obtain ⟨B₃, F₁c, bb₃, hb₃, hbo₃⟩ := F₁b.hold O₃b ho₃'
  have hr₃ : B₃.IsCell (L + 1) (some (.ref r)) := (hr.keeps bb₂).keeps bb₃
  have hD₂ : B₂.IsCell (L + 1 + 1) (some (.ref D)) := ⟨o₂, hb₂, hd₂⟩
  have hD₃ : B₃.IsCell (L + 1 + 1) (some (.ref D)) := hD₂.keeps bb₃
  have G₁ := G.mono le₁
  have R₁ := R.mono le₁
  refine wpAny_execs_cons ?_
  refine st_kept F₁c hD₃ hl (by omega) fun S₂ s₂ K F₂ le₂ hK => ?_
  refine wpAny_execs_cons ?_
  refine st_due (G₁.mono le₂) F₂ hr₃ (R₁.mono le₂) hD₃ (plain_sub hl le₂) (ht.mono le₂) hh (by omega) fun S₃ s₃ U F₃ le₃ hU => ?_
  have le13 : Sub S₁ S₃ := fun b o e => le₃ b o (le₂ b o e)
  refine wpAny_execs_cons ?_
  refine st_told (G₁.mono le13) F₃ hD₃ (plain_sub hl le13) (ht.mono le13) (by omega) hh (by omega) (by omega) fun S₄ s₄ T F₄ le₄ hT => ?_
  have le14 : Sub S₁ S₄ := fun b o e => le₄ b o (le13 b o e)
  refine wpAny_execs_cons ?_
  refine st_check (G₁.mono le14) F₄ (T := T) (U := U) rfl rfl hT (plain_sub hU le₄) (ht.mono le14) (by omega) hh (by omega) (by omega) fun s₅ F₅ => ?_
  refine wpAny_execs_cons ?_
  refine st_max (U := U) (G₁.mono le14) F₅ hr₃ (R₁.mono le14) hD₃ (plain_sub hl le14) (ht.mono le14) rfl (plain_sub hU le₄) hh hA (by omega) (by omega) fun S₆ s₆ m₆ F₆ le₆ hm₆ => ?_
  have le16 : Sub S₁ S₆ := fun b o e => le₆ b o (le14 b o e)
  have le26 : Sub S₂ S₆ := fun b o e => le₆ b o (le₄ b o (le₃ b o e))
  have le06 : Sub S S₆ := fun b o e => le16 b o (le₁ b o e)
  have hbs : Sub s₀.heap B₂ := fun b o e => bb₂ b o (F.base b o e)
  have F₆b := F₆.unhold hbs bb₃
  have O₃c : Own S₀ B₂ S₆ L (L + 1 + 1 + 1) := F₆.let_go hb₃ O₃.off0 O₃b.offB O₃.ne
  have hr₂ : B₂.IsCell (L + 1) (some (.ref r)) := hr.keeps bb₂
  refine wpAny_execs_cons ?_
  refine st_others (v₃ := v₃) (RS := RS) (a := a) (G.mono le06) F₆b hr₂ (R.mono le06) hD₂ (plain_sub hl le16) (ht.mono le16) ?_ (plain_sub hrows le06) (fun p hp => (hRS p hp).mono le06) ⟨o₃, F₆.keep _ _ hb₃, hd₃⟩ O₃c hh hA (by omega) (by omega) fun S₇ s₇ m₇ F₇ le₇ hm₇ hex₃ O₃d => ?_
  · rw [hm₆ xRows (by decide)]; exact hma
  have le17 : Sub S₁ S₇ := fun b o e => le₇ b o (le16 b o e)
  have le27 : Sub S₂ S₇ := fun b o e => le₇ b o (le26 b o e)
  refine wpAny_execs_cons ?_
  refine st_last (K := K) (G₁.mono le17) F₇ hD₂ ?_ (plain_sub hl le17) (plain_sub hK le27) (ht.mono le17) (by omega) hh (by omega) (by omega) fun s₈ x₈ => ?_
  · rw [hm₇ xKept (by decide) (by decide), hm₆ xKept (by decide)]; rfl
  refine wpAny_execs_nil ?_
  have F₈ := F₇.after x₈
  have O₂f : Own S₀ B S₇ L (L + 1 + 1) := F₈.let_go hb₂ O₂.off0 O₂.offB O₂.ne
  obtain ⟨v, o, ho, hd⟩ := hex₃
  have O₃f := O₃d.after x₈ ho
  refine h S₇ s₈ m₇ (F₈.unhold F.base bb₂) (fun b o e => le17 b o (le₁ b o e)) ?_ ⟨_, hD₂.keeps F₈.keep⟩ O₂f ⟨v, o, x₈.keep _ _ ho, hd⟩ (O₃f.mono_B bb₂)
  rw [hm₇ xRows (by decide) (by decide), hm₆ xRows (by decide)]; exact hma
end
end Mine

namespace Mine
open PySem.SeqAt PySem.MeetsSeq PySem.Calls

theorem rowA_lt {ns : List Int} {k : Nat} (h : k ∈ rowA ns) : k < 16 := by
  unfold rowA at h
  rcases List.mem_append.mp h with h | h
  · simp only [List.mem_cons, List.mem_nil_iff, or_false] at h; omega
  · obtain ⟨n, _, rfl⟩ := List.mem_map.mp h; exact idx_lt n
theorem rowB_lt {ns : List Int} {k : Nat} (h : k ∈ rowB ns) : k < 16 := by
  unfold rowB at h
  rcases List.mem_append.mp h with h | h
  · simp only [List.mem_cons, List.mem_nil_iff, or_false] at h; omega
  · obtain ⟨n, _, rfl⟩ := List.mem_map.mp h; exact idx_lt n
theorem rowA_pos (ns : List Int) : 0 < (rowA ns).length := by unfold rowA; simp
theorem rowB_pos (ns : List Int) : 0 < (rowB ns).length := by unfold rowB; simp

section
variable {prog : Program} {w : World} {A : Around} {E : Value → Shared → Prop} {s : Shared} {S₀ : Heap} {s₀ : Shared} {B S : Heap} {L fa : Addr} {cd : Value} {m : Str → Option Value}

set_option maxHeartbeats 2000000 in
theorem law_body {l : Addr} {vs : List Value} {ns : List Int} {v₁ v₂ v₃ : Option Value} {Q : Flow → Shared → Prop} (G : Gnd S) (F : Frm S₀ s₀ B S L s m) (hms : m xScript = some (.ref l)) (hl : S.IsList l vs.toArray) (hi : IntsAre vs ns) (hlen : ns.length ≤ 63)
    (hc₁ : s.heap.IsCell (L + 1) v₁) (O₁ : Own S₀ B S L (L + 1)) (hc₂ : s.heap.IsCell (L + 1 + 1) v₂) (O₂ : Own S₀ B S L (L + 1 + 1)) (hc₃ : s.heap.IsCell (L + 1 + 1 + 1) v₃) (O₃ : Own S₀ B S L (L + 1 + 1 + 1))
    (hh : A.handled = none) (hA : A.frames = some [lawEnv L fa cd]) (hdep : A.depth + 5 < recursionLimit) (hu : A.units + 200 < cLine)
    (h : ∀ S' s' m', Frm S₀ s₀ B S' L s' m' → Q (.ret (.bool true)) s') :
    wpAny (model prog w) A (execs (bodyOf 11) (lawEnv L fa cd)) Q E s := by
  have hvl := hi.length
  refine wpAny_execs_cons ?_
  refine wpAny_Assign_Name ?_
  refine eval_call1 G F.sub (a := 57) rfl rfl ?_
  refine wpAny_Subscript_list_slice ?_
  refine ldL F hms ?_
  rw [evalPart_none]
  refine wpAny_pure ?_
  rw [evalPart_some]
  refine wpAny_Constant_int ?_
  refine ⟨l, vs.toArray, none, some (16 : Nat), rfl, isList_sub hl F.sub, by simp only [List.size_toArray]; unfold sizeLine; omega, .none, .int _ _, ?_⟩
  rw [slicePick_upto']
  have F₁ := F.toks (s.toks + 1)
  obtain ⟨S₂, x₂, hg₂⟩ := ext_push2 (s := { s with toks := s.toks + 1 }) (o₁ := { cls := .type "slice", data := .fields #[.none, .int 16 s.toks, .none] }) (o₂ := { cls := .type "list", data := .seq (vs.take 16).toArray }) F₁.sub rfl
  have F₂ := F₁.after x₂
  refine ⟨fun b o e => F₂.sub b o (x₂.le b o e), ?_⟩
  have G₂ := G.mono x₂.le
  refine rows_spec (vs := vs.take 16) (ns := ns.take 16) G₂ F₂.sub ⟨_, hg₂, rfl, _, rfl⟩ (hi.take 16) (by rw [List.length_take]; omega) hh (by omega) fun S₃ s₃ a r₀ r₁ r₂ r₃ x₃ ha q₀ q₁ q₂ q₃ => ?_
  have F₃ := F₂.after x₃
  have G₃ := G₂.mono x₃.le
  have hz : (ns.take 16).length ≤ 16 := by rw [List.length_take]; omega
  generalize hns : ns.take 16 = nt at q₀ q₁ q₂ q₃ hz
  have lA := rowA_len nt
  have lB := rowB_len nt
  have pA := rowA_pos nt
  have pB := rowB_pos nt
  obtain ⟨o₁, ho₁, hd₁⟩ := hc₁
  obtain ⟨o₂, ho₂, hd₂⟩ := hc₂
  obtain ⟨o₃, ho₃, hd₃⟩ := hc₃
  have k13 : ∀ b o, s.heap.get? b = some o → s₃.heap.get? b = some o := fun b o e => x₃.keep b o (x₂.keep b o e)
  have P₁ := (O₁.after x₂ ho₁).after x₃ (x₂.keep _ _ ho₁)
  have P₂ := (O₂.after x₂ ho₂).after x₃ (x₂.keep _ _ ho₂)
  have P₃ := (O₃.after x₂ ho₃).after x₃ (x₂.keep _ _ ho₃)
  refine stL F₃ fun h₄ F₄ hk₄ => ?_
  have k4 : ∀ b o, b ≠ L → s.heap.get? b = some o → h₄.get? b = some o := fun b o hb e => (hk₄ b hb).trans (k13 b o e)
  have RS : ∀ p ∈ [(r₀, rowA nt), (r₁, rowB nt), (r₂, rowA nt ++ rowB nt), (r₃, rowB nt ++ rowA nt)], RowOk S₃ p.1 p.2 := by
    intro p hp
    simp only [List.mem_cons, List.mem_nil_iff, or_false] at hp
    rcases hp with rfl | rfl | rfl | rfl
    · exact ⟨q₀, fun k hk => rowA_lt hk, by show (rowA nt).length ≤ 40; omega, pA⟩
    · exact ⟨q₁, fun k hk => rowB_lt hk, by show (rowB nt).length ≤ 40; omega, pB⟩
    · exact ⟨q₂, fun k hk => (List.mem_append.mp hk).elim rowA_lt rowB_lt, by show (rowA nt ++ rowB nt).length ≤ 40; rw [List.length_append]; omega, by show 0 < (rowA nt ++ rowB nt).length; rw [List.length_append]; omega⟩
    · exact ⟨q₃, fun k hk => (List.mem_append.mp hk).elim rowB_lt rowA_lt, by show (rowB nt ++ rowA nt).length ≤ 40; rw [List.length_append]; omega, by show 0 < (rowB nt ++ rowA nt).length; rw [List.length_append]; omega⟩
  refine wpAny_execs_cons ?_
  refine wpAny_For ?_
  refine ldL F₄ (v := .ref a) rfl ?_
  refine for_list_cell F₄ hh ha.isList P₁ ⟨o₁, k4 _ _ O₁.ne ho₁, hd₁⟩ [L + 1 + 1, L + 1 + 1 + 1] (fun i S' h' m' => m' xRows = some (.ref a) ∧ (∃ v, h'.IsCell (L + 1 + 1) v) ∧ ∃ v, h'.IsCell (L + 1 + 1 + 1) v)
    ⟨rfl, ⟨v₂, o₂, k4 _ _ O₂.ne ho₂, hd₂⟩, v₃, o₃, k4 _ _ O₃.ne ho₃, hd₃⟩ (fun i S' h' h'' m' hj hk => ?_) (fun b hb => ?_) ?_ ?_ cell_row
  · obtain ⟨j1, ⟨v, o, ho, hd⟩, v', o', ho', hd'⟩ := hj
    exact ⟨j1, ⟨v, o, hk _ (by simp) o ho, hd⟩, v', o', hk _ (by simp) o' ho', hd'⟩
  · simp only [List.mem_cons, List.mem_nil_iff, or_false] at hb
    rcases hb with rfl | rfl
    · exact ⟨P₂, ⟨o₂, k4 _ _ O₂.ne ho₂⟩, Nat.ne_of_gt (Nat.lt_succ_self _)⟩
    · exact ⟨P₃, ⟨o₃, k4 _ _ O₃.ne ho₃⟩, Nat.ne_of_gt (Nat.lt_trans (Nat.lt_succ_self _) (Nat.lt_succ_self _))⟩
  · intro i B₁ S₁ s₁ m₁ v hv hSS hBB hco F₁ hJ hO
    obtain ⟨j1, ⟨w₂, hw₂⟩, w₃, hw₃⟩ := hJ
    obtain ⟨p, hmem, rfl⟩ : ∃ p, p ∈ [(r₀, rowA nt), (r₁, rowB nt), (r₂, rowA nt ++ rowB nt), (r₃, rowB nt ++ rowA nt)] ∧ v = Value.ref p.1 := by
      match i, hv with
      | 0, hv => exact ⟨_, .head _, by simpa using hv.symm⟩
      | 1, hv => exact ⟨_, .tail _ (.head _), by simpa using hv.symm⟩
      | 2, hv => exact ⟨_, .tail _ (.tail _ (.head _)), by simpa using hv.symm⟩
      | 3, hv => exact ⟨_, .tail _ (.tail _ (.tail _ (.head _))), by simpa using hv.symm⟩
      | i + 4, hv => simp at hv
    refine row_body (RS := [(r₀, rowA nt), (r₁, rowB nt), (r₂, rowA nt ++ rowB nt), (r₃, rowB nt ++ rowA nt)]) (G₃.mono hSS) F₁ hco ((RS p hmem).mono hSS) j1 (plain_sub ha hSS) (fun p hp => (RS p hp).mono hSS) hw₂ (hO _ (by simp)) hw₃ (hO _ (by simp)) hh hA hdep hu fun S' s' m' F' le hm' e2 w2 e3 w3 => ?_
    refine ⟨S', m', le, F', ⟨hm', e2, e3⟩, fun b hb => ?_⟩
    simp only [List.mem_cons, List.mem_nil_iff, or_false] at hb
    rcases hb with rfl | rfl
    · exact w2
    · exact w3
  · intro S₅ s₅ m₅ _ F₅ _ _ _ _
    refine wpAny_execs_cons ?_
    refine wpAny_Return_some ?_
    refine wpAny_Constant_bool ?_
    exact h S₅ s₅ m₅ F₅
end
end Mine

namespace Mine
open PySem.SeqAt PySem.MeetsSeq PySem.Calls

theorem mem_of_look {α β : Type} [BEq α] [LawfulBEq α] {l : List (α × β)} {x : α} {v : β} (h : l.lookup x = some v) : (x, v) ∈ l := by
  induction l with
  | nil => cases h
  | cons p l ih =>
    rw [List.lookup_cons] at h
    by_cases hx : (x == p.1) = true
    · simp only [hx] at h; cases h; rw [eq_of_beq hx]; exact .head _
    · simp only [hx] at h; exact .tail _ (ih h)

theorem gnd_of {K : Frag} {h : Heap} {mg mb : Str → Option Value} (X : K.In h) (Tg : h.Ns mainGlobals mg) (Tb : h.Ns builtinsNs mb) (lim : h.NoLimit) (hb : ∀ x : Str, x ≠ "__name__" → mb x = bootBuiltins x)
    (hg : ∀ p ∈ gtab, nsIn K mainGlobals p.1 = some (some (.ref p.2))) (hn : ∀ p ∈ bnames, nsIn K mainGlobals p.1 = some none ∧ p.1 ≠ "__name__")
    (hf : ∀ p ∈ ftab, K.lookup p.1 = some (fnO p.2) ∧ codeIn K p.2.code p.2.qualname = true)
    (hk : ∃ hs t n, K.lookup 15 = some { cls := .type "dict", data := .dict #[⟨hs, .str (Str.ofString "unhashable_fallback") t, .bool false⟩] n }) : Gnd h := by
  refine ⟨⟨mg, mb, Tg, Tb, fun x a e => ?_, fun x v e => ?_⟩, lim, fun a fd e => ?_, ?_⟩
  · exact mg_of X Tg (hg _ (mem_of_look e))
  · obtain ⟨h1, h2⟩ := hn _ (mem_of_look e)
    exact ⟨mg_none_of X Tg h1, (hb x h2).trans (boots x v e)⟩
  · obtain ⟨h1, h2⟩ := hf _ (mem_of_look e)
    exact ⟨X _ _ h1, codeRec_of X h2⟩
  · obtain ⟨hs, t, n, e⟩ := hk
    exact ⟨hs, t, n, X _ _ e⟩

/-- from the frame that the call has laid -/
theorem frm_of {s₁ : Shared} {L : Addr} {h₁ : Heap} {tk : Nat} {m : Str → Option Value} (F : Fr s₁.heap L h₁ m) : Frm s₁.heap s₁ s₁.heap s₁.heap L { s₁ with heap := h₁, toks := tk } m :=
  ⟨⟨h₁, tk, rfl⟩, fun _ _ e => e, F.keep, fun _ _ e => e, F.keep, fun _ _ _ => rfl, F.ns, get?_none_of_size (fun _ _ e => e) F.above, get?_none_of_size (fun _ _ e => e) F.above⟩
theorem own_of {s₁ : Shared} {L : Addr} {h₁ : Heap} {news : List (Addr × Obj)} {p : Addr × Obj} (N : News s₁.heap L h₁ news) (hp : p ∈ news) : Own s₁.heap s₁.heap s₁.heap L p.1 :=
  ⟨(N p hp).2.2, (N p hp).2.2, (N p hp).2.2, (N p hp).2.1⟩
end Mine

namespace Mine
set_option maxHeartbeats 8000000 in
open_top hd for PySem.Challenge.rw_dz0116_01
end Mine
open Mine
set_option maxHeartbeats 8000000 in
theorem PySem.Challenge.cw_dz0116_01_holds : PySem.Challenge.rw_dz0116_01.Holds := by
  refine hd ?_
  k_go0
  rename Frag.In _ _ => KX
  rename Top _ _ _ _ _ _ => T
  rename News _ _ _ _ => N
  rename Fr _ _ _ _ => F
  rename IntsAre _ _ => hI
  rename Heap.IsList _ _ _ => hL
  rename (_ : Shared).gens = _ => hgens
  rename ¬ (_ < _) => hlen
  have G := gnd_of KX T.g T.b T.nolimit T.builtins
    (by
      intro p hp
      simp only [gtab, List.mem_cons, List.mem_nil_iff, or_false] at hp
      rcases hp with rfl | rfl | rfl | rfl | rfl | rfl | rfl | rfl | rfl <;> rfl)
    (by
      intro p hp
      simp only [bnames, List.mem_cons, List.mem_nil_iff, or_false] at hp
      rcases hp with rfl | rfl | rfl | rfl | rfl | rfl | rfl | rfl | rfl | rfl <;> exact ⟨rfl, by decide⟩)
    (by
      intro p hp
      simp only [ftab, List.mem_cons, List.mem_nil_iff, or_false] at hp
      rcases hp with rfl | rfl | rfl | rfl | rfl | rfl | rfl | rfl | rfl <;> exact ⟨rfl, rfl⟩)
    ⟨_, _, _, rfl⟩
  rename_i o₃ o₂ o₁ d₃ d₂ d₁ X0
  refine law_body (S₀ := _) (s₀ := _) (B := _) G (frm_of F) rfl hL hI (by omega) ⟨o₁, (N _ (.tail _ (.tail _ (.head _)))).1, d₁⟩ (own_of N (.tail _ (.tail _ (.head _)))) ⟨o₂, (N _ (.tail _ (.head _))).1, d₂⟩ (own_of N (.tail _ (.head _))) ⟨o₃, (N _ (.head _)).1, d₃⟩ (own_of N (.head _))
    rfl rfl (show 1 + claimMargin + 1 + 5 < recursionLimit by decide) (show 4 + 3 + 200 < cLine by decide) fun S' s' m' F' => ?_
  obtain ⟨h', tk', rfl⟩ := F'.st
  refine goodW_bool ⟨F'.ns, F'.keep, F.above⟩ hgens (raisesW_false ?_) ?_
  · wrow_none_raised
  · first
      | wrow_post
      | (refine postW_of ?_ ?_ ?_
         · wrow_shape
         · wtm_val
         · rfl)
